/- The functions that the law reaches, made ready for the interpreter (printed by a program of this session; the kernel compares each with the given program). -/
import Derived.Test.YtcodfehgnjplcaaGreatDoorFDocVP1
namespace Go.Proofs.YtcodfehgnjplcaaGreatDoor.Abs
set_option linter.all false
set_option maxRecDepth 100000
section
variable {fns : FuncId → Option AFunc} {Q : Ex × St → Prop} {s : List Fr} {c : ACode} {st : St}
def q65_0 : List AOper :=
  [⟨.move .look (.p 0), (some 39), none⟩,
    ⟨.load .look false 1 (.c (.gl 3)), (some 40), none⟩,
    ⟨.call 165 [(.p 39, false), (.p 40, false)], (some 41), none⟩,
    ⟨.assign (.p 41), (some 38), none⟩]
@[simp] def eq65_0 := id q65_0.eq_1
def q65_1 : List AOper :=
  [⟨.move .look (.p 0), (some 35), none⟩,
    ⟨.load .look false 1 (.c (.gl 2)), (some 36), none⟩,
    ⟨.call 165 [(.p 35, false), (.p 36, false)], (some 37), none⟩,
    ⟨.assign (.p 37), (some 34), none⟩]
@[simp] def eq65_1 := id q65_1.eq_1
def q65_2 : List AOper :=
  [⟨.move .look (.p 0), (some 31), none⟩,
    ⟨.load .look false 1 (.c (.gl 1)), (some 32), none⟩,
    ⟨.call 165 [(.p 31, false), (.p 32, false)], (some 33), none⟩,
    ⟨.assign (.p 33), (some 27), none⟩]
@[simp] def eq65_2 := id q65_2.eq_1
def q65_3 : List AOper :=
  [⟨.move .look (.p 0), (some 28), none⟩,
    ⟨.load .look false 1 (.c (.gl 0)), (some 29), none⟩,
    ⟨.call 165 [(.p 28, false), (.p 29, false)], (some 30), none⟩,
    ⟨.assign (.p 30), (some 27), none⟩]
@[simp] def eq65_3 := id q65_3.eq_1
def q65_4 : List AOper :=
  [⟨.newbox 3 [.slice .nil 0 1 [], .slice .nil 0 1 []], (some 3), none⟩,
    ⟨.store 2 (.p 3) (.p 12), none, none⟩]
@[simp] def eq65_4 := id q65_4.eq_1
def q65_5 : List AOper :=
  [⟨.bin .eql 2 true (.p 16) (.c (.str [100, 111, 99, 117, 109, 101, 110, 116, 32, 111, 114, 32, 97, 114, 114, 97, 121, 32, 101, 110, 100, 32, 105, 115, 32, 109, 105, 115, 115, 105, 110, 103, 32, 110, 117, 108, 108, 32, 98, 121, 116, 101])), (some 20), none⟩,
    ⟨.assign (.p 20), (some 19), none⟩]
@[simp] def eq65_5 := id q65_5.eq_1
def q65_6 : List AOper :=
  [⟨.bin .eql 2 true (.p 16) (.c (.str [100, 111, 99, 117, 109, 101, 110, 116, 32, 111, 114, 32, 97, 114, 114, 97, 121, 32, 108, 101, 110, 103, 116, 104, 32, 105, 115, 32, 105, 110, 118, 97, 108, 105, 100])), (some 18), none⟩,
    ⟨.assign (.p 18), (some 17), none⟩]
@[simp] def eq65_6 := id q65_6.eq_1
def q65_7 : List AOper :=
  [⟨.newbox 6 [.str [], .int .u8 0], (some 6), none⟩,
    ⟨.store 2 (.p 6) (.p 26), none, none⟩]
@[simp] def eq65_7 := id q65_7.eq_1
def q65_8 : List AOper :=
  [⟨.px (.tassert 243 (.agg [.str [], .int .u8 0]) true) [.p 9], (some 24), none⟩,
    ⟨.extract 24 1, (some 25), none⟩,
    ⟨.extract 24 0, (some 26), none⟩]
@[simp] def eq65_8 := id q65_8.eq_1
def q65_9 : List AOper :=
  [⟨.px (.tassert 241 (.str []) true) [.p 9], (some 21), none⟩,
    ⟨.extract 21 1, (some 22), none⟩,
    ⟨.extract 21 0, (some 23), none⟩]
@[simp] def eq65_9 := id q65_9.eq_1
def q65_10 : List AOper :=
  [⟨.px (.tassert 240 (.str []) true) [.p 9], (some 13), none⟩,
    ⟨.extract 13 1, (some 14), none⟩,
    ⟨.extract 13 0, (some 15), none⟩]
@[simp] def eq65_10 := id q65_10.eq_1
def q65_11 : List AOper :=
  [⟨.px (.tassert 239 (.agg [.slice .nil 0 1 [], .slice .nil 0 1 []]) true) [.p 9], (some 10), none⟩,
    ⟨.extract 10 1, (some 11), none⟩,
    ⟨.extract 10 0, (some 12), none⟩]
@[simp] def eq65_11 := id q65_11.eq_1
def q65_12 : List AOper :=
  [⟨.move .head (.p 0), (some 7), none⟩,
    ⟨.bin .eql 5 true (.p 7) (.c (.nilI)), (some 8), none⟩]
@[simp] def eq65_12 := id q65_12.eq_1
def k65_0 : ACode :=
  .ops [⟨.assign (.c (.int .i64 9)), (some 2), none⟩] .ret
@[simp] theorem xk65_0 : GoC fns Q s k65_0 st ↔ GoO fns Q s [⟨.assign (.c (.int .i64 9)), (some 2), none⟩] .ret st := goC_ops
def k65_1 : ACode :=
  .ops [⟨.assign (.c (.int .i64 7)), (some 2), none⟩] .ret
@[simp] theorem xk65_1 : GoC fns Q s k65_1 st ↔ GoO fns Q s [⟨.assign (.c (.int .i64 7)), (some 2), none⟩] .ret st := goC_ops
def k65_2 : ACode :=
  .ops [⟨.assign (.c (.int .i64 8)), (some 2), none⟩] .ret
@[simp] theorem xk65_2 : GoC fns Q s k65_2 st ↔ GoO fns Q s [⟨.assign (.c (.int .i64 8)), (some 2), none⟩] .ret st := goC_ops
def k65_3 : ACode :=
  .ops [⟨.assign (.c (.int .i64 11)), (some 2), none⟩] .ret
@[simp] theorem xk65_3 : GoC fns Q s k65_3 st ↔ GoO fns Q s [⟨.assign (.c (.int .i64 11)), (some 2), none⟩] .ret st := goC_ops
def k65_4 : ACode :=
  .cond (.p 38) k65_3 .skip
@[simp] theorem xk65_4 : GoC fns Q s k65_4 st ↔ GB fns Q s (peek st (.p 38)) k65_3 .skip st := goC_cond
def k65_5 : ACode :=
  .ops q65_0 k65_4
@[simp] theorem xk65_5 : GoC fns Q s k65_5 st ↔ GoO fns Q s q65_0 k65_4 st := goC_ops
def k65_6 : ACode :=
  .cond (.p 34) k65_2 k65_5
@[simp] theorem xk65_6 : GoC fns Q s k65_6 st ↔ GB fns Q s (peek st (.p 34)) k65_2 k65_5 st := goC_cond
def k65_7 : ACode :=
  .ops q65_1 k65_6
@[simp] theorem xk65_7 : GoC fns Q s k65_7 st ↔ GoO fns Q s q65_1 k65_6 st := goC_ops
def k65_8 : ACode :=
  .cond (.p 27) k65_1 k65_7
@[simp] theorem xk65_8 : GoC fns Q s k65_8 st ↔ GB fns Q s (peek st (.p 27)) k65_1 k65_7 st := goC_cond
def k65_9 : ACode :=
  .ops q65_2 .skip
@[simp] theorem xk65_9 : GoC fns Q s k65_9 st ↔ GoO fns Q s q65_2 .skip st := goC_ops
def k65_10 : ACode :=
  .cond (.p 27) .skip k65_9
@[simp] theorem xk65_10 : GoC fns Q s k65_10 st ↔ GB fns Q s (peek st (.p 27)) .skip k65_9 st := goC_cond
def k65_11 : ACode :=
  .seq k65_10 k65_8
@[simp] theorem xk65_11 : GoC fns Q s k65_11 st ↔ GoC fns Q (.sq k65_8 :: s) k65_10 st := goC_seq
def k65_12 : ACode :=
  .ops q65_3 k65_11
@[simp] theorem xk65_12 : GoC fns Q s k65_12 st ↔ GoO fns Q s q65_3 k65_11 st := goC_ops
def k65_13 : ACode :=
  .block 2 k65_12
@[simp] theorem xk65_13 : GoC fns Q s k65_13 st ↔ GoC fns Q (.bl 2 :: s) k65_12 st := goC_block
def k65_14 : ACode :=
  .seq k65_13 k65_0
@[simp] theorem xk65_14 : GoC fns Q s k65_14 st ↔ GoC fns Q (.sq k65_0 :: s) k65_13 st := goC_seq
def k65_15 : ACode :=
  .ops [⟨.assign (.c (.int .i64 1)), (some 2), none⟩] .ret
@[simp] theorem xk65_15 : GoC fns Q s k65_15 st ↔ GoO fns Q s [⟨.assign (.c (.int .i64 1)), (some 2), none⟩] .ret st := goC_ops
def k65_16 : ACode :=
  .ops q65_4 k65_15
@[simp] theorem xk65_16 : GoC fns Q s k65_16 st ↔ GoO fns Q s q65_4 k65_15 st := goC_ops
def k65_17 : ACode :=
  .ops [⟨.assign (.c (.int .i64 4)), (some 2), none⟩] .ret
@[simp] theorem xk65_17 : GoC fns Q s k65_17 st ↔ GoO fns Q s [⟨.assign (.c (.int .i64 4)), (some 2), none⟩] .ret st := goC_ops
def k65_18 : ACode :=
  .ops [⟨.assign (.c (.int .i64 2)), (some 2), none⟩] .ret
@[simp] theorem xk65_18 : GoC fns Q s k65_18 st ↔ GoO fns Q s [⟨.assign (.c (.int .i64 2)), (some 2), none⟩] .ret st := goC_ops
def k65_19 : ACode :=
  .ops [⟨.assign (.c (.int .i64 3)), (some 2), none⟩] .ret
@[simp] theorem xk65_19 : GoC fns Q s k65_19 st ↔ GoO fns Q s [⟨.assign (.c (.int .i64 3)), (some 2), none⟩] .ret st := goC_ops
def k65_20 : ACode :=
  .cond (.p 19) k65_19 .skip
@[simp] theorem xk65_20 : GoC fns Q s k65_20 st ↔ GB fns Q s (peek st (.p 19)) k65_19 .skip st := goC_cond
def k65_21 : ACode :=
  .ops q65_5 k65_20
@[simp] theorem xk65_21 : GoC fns Q s k65_21 st ↔ GoO fns Q s q65_5 k65_20 st := goC_ops
def k65_22 : ACode :=
  .cond (.p 17) k65_18 k65_21
@[simp] theorem xk65_22 : GoC fns Q s k65_22 st ↔ GB fns Q s (peek st (.p 17)) k65_18 k65_21 st := goC_cond
def k65_23 : ACode :=
  .ops q65_6 k65_22
@[simp] theorem xk65_23 : GoC fns Q s k65_23 st ↔ GoO fns Q s q65_6 k65_22 st := goC_ops
def k65_24 : ACode :=
  .block 1 k65_23
@[simp] theorem xk65_24 : GoC fns Q s k65_24 st ↔ GoC fns Q (.bl 1 :: s) k65_23 st := goC_block
def k65_25 : ACode :=
  .seq k65_24 k65_17
@[simp] theorem xk65_25 : GoC fns Q s k65_25 st ↔ GoC fns Q (.sq k65_17 :: s) k65_24 st := goC_seq
def k65_26 : ACode :=
  .ops [⟨.move .head (.p 4), (some 16), none⟩] k65_25
@[simp] theorem xk65_26 : GoC fns Q s k65_26 st ↔ GoO fns Q s [⟨.move .head (.p 4), (some 16), none⟩] k65_25 st := goC_ops
def k65_27 : ACode :=
  .ops [⟨.assign (.p 15), (some 4), none⟩] k65_26
@[simp] theorem xk65_27 : GoC fns Q s k65_27 st ↔ GoO fns Q s [⟨.assign (.p 15), (some 4), none⟩] k65_26 st := goC_ops
def k65_28 : ACode :=
  .ops [⟨.assign (.c (.int .i64 5)), (some 2), none⟩] .ret
@[simp] theorem xk65_28 : GoC fns Q s k65_28 st ↔ GoO fns Q s [⟨.assign (.c (.int .i64 5)), (some 2), none⟩] .ret st := goC_ops
def k65_29 : ACode :=
  .ops [⟨.assign (.p 23), (some 5), none⟩] k65_28
@[simp] theorem xk65_29 : GoC fns Q s k65_29 st ↔ GoO fns Q s [⟨.assign (.p 23), (some 5), none⟩] k65_28 st := goC_ops
def k65_30 : ACode :=
  .ops [⟨.assign (.c (.int .i64 10)), (some 2), none⟩] .ret
@[simp] theorem xk65_30 : GoC fns Q s k65_30 st ↔ GoO fns Q s [⟨.assign (.c (.int .i64 10)), (some 2), none⟩] .ret st := goC_ops
def k65_31 : ACode :=
  .ops q65_7 k65_30
@[simp] theorem xk65_31 : GoC fns Q s k65_31 st ↔ GoO fns Q s q65_7 k65_30 st := goC_ops
def k65_32 : ACode :=
  .cond (.p 25) k65_31 .skip
@[simp] theorem xk65_32 : GoC fns Q s k65_32 st ↔ GB fns Q s (peek st (.p 25)) k65_31 .skip st := goC_cond
def k65_33 : ACode :=
  .ops q65_8 k65_32
@[simp] theorem xk65_33 : GoC fns Q s k65_33 st ↔ GoO fns Q s q65_8 k65_32 st := goC_ops
def k65_34 : ACode :=
  .cond (.p 22) k65_29 k65_33
@[simp] theorem xk65_34 : GoC fns Q s k65_34 st ↔ GB fns Q s (peek st (.p 22)) k65_29 k65_33 st := goC_cond
def k65_35 : ACode :=
  .ops q65_9 k65_34
@[simp] theorem xk65_35 : GoC fns Q s k65_35 st ↔ GoO fns Q s q65_9 k65_34 st := goC_ops
def k65_36 : ACode :=
  .cond (.p 14) k65_27 k65_35
@[simp] theorem xk65_36 : GoC fns Q s k65_36 st ↔ GB fns Q s (peek st (.p 14)) k65_27 k65_35 st := goC_cond
def k65_37 : ACode :=
  .ops q65_10 k65_36
@[simp] theorem xk65_37 : GoC fns Q s k65_37 st ↔ GoO fns Q s q65_10 k65_36 st := goC_ops
def k65_38 : ACode :=
  .cond (.p 11) k65_16 k65_37
@[simp] theorem xk65_38 : GoC fns Q s k65_38 st ↔ GB fns Q s (peek st (.p 11)) k65_16 k65_37 st := goC_cond
def k65_39 : ACode :=
  .ops q65_11 k65_38
@[simp] theorem xk65_39 : GoC fns Q s k65_39 st ↔ GoO fns Q s q65_11 k65_38 st := goC_ops
def k65_40 : ACode :=
  .block 0 k65_39
@[simp] theorem xk65_40 : GoC fns Q s k65_40 st ↔ GoC fns Q (.bl 0 :: s) k65_39 st := goC_block
def k65_41 : ACode :=
  .seq k65_40 k65_14
@[simp] theorem xk65_41 : GoC fns Q s k65_41 st ↔ GoC fns Q (.sq k65_14 :: s) k65_40 st := goC_seq
def k65_42 : ACode :=
  .ops [⟨.move .head (.p 0), (some 9), none⟩] k65_41
@[simp] theorem xk65_42 : GoC fns Q s k65_42 st ↔ GoO fns Q s [⟨.move .head (.p 0), (some 9), none⟩] k65_41 st := goC_ops
def k65_43 : ACode :=
  .ops [⟨.assign (.c (.int .i64 0)), (some 2), none⟩] .ret
@[simp] theorem xk65_43 : GoC fns Q s k65_43 st ↔ GoO fns Q s [⟨.assign (.c (.int .i64 0)), (some 2), none⟩] .ret st := goC_ops
def k65_44 : ACode :=
  .cond (.p 8) k65_43 .skip
@[simp] theorem xk65_44 : GoC fns Q s k65_44 st ↔ GB fns Q s (peek st (.p 8)) k65_43 .skip st := goC_cond
def k65_45 : ACode :=
  .seq k65_44 k65_42
@[simp] theorem xk65_45 : GoC fns Q s k65_45 st ↔ GoC fns Q (.sq k65_42 :: s) k65_44 st := goC_seq
def k65_46 : ACode :=
  .ops q65_12 k65_45
@[simp] theorem xk65_46 : GoC fns Q s k65_46 st ↔ GoO fns Q s q65_12 k65_45 st := goC_ops
def k65_47 : ACode :=
  .ops [⟨.assign (.c (.int .i64 0)), (some 2), none⟩] k65_46
@[simp] theorem xk65_47 : GoC fns Q s k65_47 st ↔ GoO fns Q s [⟨.assign (.c (.int .i64 0)), (some 2), none⟩] k65_46 st := goC_ops
def af65 : AFunc := ⟨42, k65_47, [.tmp 2], fun _ => none⟩

theorem ok65 : ∃ hs, pFunc Tryz.prog sg hs Tryz.f65 = some af65 := ⟨fun i => 0, by kernel_rfl⟩
def q58_0 : List AOper :=
  [⟨.load .look true 2 (.p 6), (some 14), none⟩,
    ⟨.call 62 [(.p 14, false)], (some 15), none⟩,
    ⟨.move .look (.p 7), (some 16), none⟩,
    ⟨.call 65 [(.p 16, false)], (some 17), none⟩,
    ⟨.store 2 (.p 4) (.p 15), none, none⟩,
    ⟨.assign (.p 17), (some 5), none⟩]
@[simp] def eq58_0 := id q58_0.eq_1
def q58_1 : List AOper :=
  [⟨.move .look (.t 0), (some 9), none⟩,
    ⟨.move .look (.t 1), (some 10), none⟩,
    ⟨.call 161 [(.t 9, false), (.t 10, false)], (some 11), none⟩,
    ⟨.move .look (.t 11), (some 8), none⟩,
    ⟨.extract 8 0, (some 12), none⟩,
    ⟨.extract 8 1, (some 13), none⟩,
    ⟨.newbox 6 [.int .u8 0, .slice .nil 0 1 []], (some 6), none⟩,
    ⟨.store 2 (.p 6) (.p 12), none, none⟩,
    ⟨.assign (.p 13), (some 7), none⟩]
@[simp] def eq58_1 := id q58_1.eq_1
def q58_2 : List AOper :=
  [⟨.newbox 4 [.int .i64 0, .slice .nil 0 1 []], (some 4), none⟩,
    ⟨.assign (.c (.int .i64 0)), (some 5), none⟩]
@[simp] def eq58_2 := id q58_2.eq_1
def k58_0 : ACode :=
  .ops q58_0 .ret
@[simp] theorem xk58_0 : GoC fns Q s k58_0 st ↔ GoO fns Q s q58_0 .ret st := goC_ops
def k58_1 : ACode :=
  .ops q58_1 k58_0
@[simp] theorem xk58_1 : GoC fns Q s k58_1 st ↔ GoO fns Q s q58_1 k58_0 st := goC_ops
def k58_2 : ACode :=
  .ops q58_2 k58_1
@[simp] theorem xk58_2 : GoC fns Q s k58_2 st ↔ GoO fns Q s q58_2 k58_1 st := goC_ops
def af58 : AFunc := ⟨18, k58_2, [.cell 4 true 2, .tmp 5], fun _ => none⟩

theorem ok58 : ∃ hs, pFunc Tryz.prog sg hs Tryz.f58 = some af58 := ⟨fun i => 0, by kernel_rfl⟩
def q260_0 : List AOper :=
  [⟨.move .look (.p 0), (some 7), none⟩,
    ⟨.bin .add 2 true (.p 7) (.c (.str [32, 108, 101, 110, 103, 116, 104, 32, 101, 120, 99, 101, 101, 100, 115, 32, 97, 118, 97, 105, 108, 97, 98, 108, 101, 32, 98, 121, 116, 101, 115])), (some 8), none⟩,
    ⟨.mkIface 240 (.p 8), (some 9), none⟩,
    ⟨.assign (.p 9), (some 6), none⟩]
@[simp] def eq260_0 := id q260_0.eq_1
def k260_0 : ACode :=
  .ops q260_0 .ret
@[simp] theorem xk260_0 : GoC fns Q s k260_0 st ↔ GoO fns Q s q260_0 .ret st := goC_ops
def k260_1 : ACode :=
  .ops [⟨.assign (.c (.nilI)), (some 6), none⟩] k260_0
@[simp] theorem xk260_1 : GoC fns Q s k260_1 st ↔ GoO fns Q s [⟨.assign (.c (.nilI)), (some 6), none⟩] k260_0 st := goC_ops
def af260 : AFunc := ⟨10, k260_1, [.tmp 6], fun _ => none⟩

theorem ok260 : ∃ hs, pFunc Tryz.prog sg hs Tryz.f260 = some af260 := ⟨fun i => 0, by kernel_rfl⟩
def q219_0 : List AOper :=
  [⟨.move .look (.p 0), (some 5), none⟩,
    ⟨.move .look (.p 1), (some 6), none⟩,
    ⟨.call 260 [(.c (.str [100, 111, 99, 117, 109, 101, 110, 116]), false), (.p 5, false), (.p 6, false)], (some 7), none⟩,
    ⟨.assign (.p 7), (some 4), none⟩]
@[simp] def eq219_0 := id q219_0.eq_1
def k219_0 : ACode :=
  .ops q219_0 .ret
@[simp] theorem xk219_0 : GoC fns Q s k219_0 st ↔ GoO fns Q s q219_0 .ret st := goC_ops
def k219_1 : ACode :=
  .ops [⟨.assign (.c (.nilI)), (some 4), none⟩] k219_0
@[simp] theorem xk219_1 : GoC fns Q s k219_1 st ↔ GoO fns Q s [⟨.assign (.c (.nilI)), (some 4), none⟩] k219_0 st := goC_ops
def af219 : AFunc := ⟨8, k219_1, [.tmp 4], fun _ => none⟩

theorem ok219 : ∃ hs, pFunc Tryz.prog sg hs Tryz.f219 = some af219 := ⟨fun i => 0, by kernel_rfl⟩
def q67_0 : List AOper :=
  [⟨.fieldAddr 1 (.p 1), (some 17), none⟩,
    ⟨.load .look false 1 (.p 17), (some 18), none⟩,
    ⟨.fieldAddr 1 (.p 1), (some 19), none⟩,
    ⟨.load .look false 1 (.p 19), (some 20), none⟩,
    ⟨.call 166 [(.t 18, false), (.t 20, false)], (some 21), none⟩,
    ⟨.mkIface 239 (.p 21), (some 22), none⟩,
    ⟨.assign (.p 22), (some 2), none⟩]
@[simp] def eq67_0 := id q67_0.eq_1
def q67_1 : List AOper :=
  [⟨.move .look (.p 5), (some 15), none⟩,
    ⟨.un .not (.p 15), (some 16), none⟩]
@[simp] def eq67_1 := id q67_1.eq_1
def q67_2 : List AOper :=
  [⟨.fieldAddr 1 (.p 1), (some 7), none⟩,
    ⟨.load .look false 1 (.p 7), (some 8), none⟩,
    ⟨.fieldAddr 0 (.p 1), (some 9), none⟩,
    ⟨.load .look false 1 (.p 9), (some 10), none⟩,
    ⟨.call 163 [(.t 8, false), (.p 10, false)], (some 11), none⟩,
    ⟨.move .look (.t 11), (some 6), none⟩,
    ⟨.extract 6 0, (some 12), none⟩,
    ⟨.extract 6 1, (some 13), none⟩,
    ⟨.extract 6 2, (some 14), none⟩,
    ⟨.assign (.t 12), (some 3), none⟩,
    ⟨.assign (.t 13), (some 4), none⟩,
    ⟨.assign (.p 14), (some 5), none⟩]
@[simp] def eq67_2 := id q67_2.eq_1
def q67_3 : List AOper :=
  [⟨.box 1 (.p 0), (some 1), none⟩,
    ⟨.assign (.c (.nilI)), (some 2), none⟩]
@[simp] def eq67_3 := id q67_3.eq_1
def k67_0 : ACode :=
  .ops [⟨.assign (.c (.nilI)), (some 2), none⟩] .ret
@[simp] theorem xk67_0 : GoC fns Q s k67_0 st ↔ GoO fns Q s [⟨.assign (.c (.nilI)), (some 2), none⟩] .ret st := goC_ops
def k67_1 : ACode :=
  .ops q67_0 .ret
@[simp] theorem xk67_1 : GoC fns Q s k67_1 st ↔ GoO fns Q s q67_0 .ret st := goC_ops
def k67_2 : ACode :=
  .cond (.p 16) k67_1 .skip
@[simp] theorem xk67_2 : GoC fns Q s k67_2 st ↔ GB fns Q s (peek st (.p 16)) k67_1 .skip st := goC_cond
def k67_3 : ACode :=
  .seq k67_2 k67_0
@[simp] theorem xk67_3 : GoC fns Q s k67_3 st ↔ GoC fns Q (.sq k67_0 :: s) k67_2 st := goC_seq
def k67_4 : ACode :=
  .ops q67_1 k67_3
@[simp] theorem xk67_4 : GoC fns Q s k67_4 st ↔ GoO fns Q s q67_1 k67_3 st := goC_ops
def k67_5 : ACode :=
  .ops q67_2 k67_4
@[simp] theorem xk67_5 : GoC fns Q s k67_5 st ↔ GoO fns Q s q67_2 k67_4 st := goC_ops
def k67_6 : ACode :=
  .ops q67_3 k67_5
@[simp] theorem xk67_6 : GoC fns Q s k67_6 st ↔ GoO fns Q s q67_3 k67_5 st := goC_ops
def af67 : AFunc := ⟨23, k67_6, [.tmp 2], fun _ => none⟩

theorem ok67 : ∃ hs, pFunc Tryz.prog sg hs Tryz.f67 = some af67 := ⟨fun i => 0, by kernel_rfl⟩
def q172_0 : List AOper :=
  [⟨.move .look (.t 0), (some 14), none⟩,
    ⟨.indexAddr 1 (.t 14) (.c (.int .i64 0)), (some 15), none⟩,
    ⟨.load .look false 1 (.p 15), (some 16), none⟩,
    ⟨.move .look (.t 0), (some 17), none⟩,
    ⟨.move .look (.p 3), (some 18), none⟩,
    ⟨.bin .add 1 true (.p 18) (.c (.int .i64 2)), (some 19), none⟩,
    ⟨.sliceSl 1 (.t 17) (some (.p 19)) none, (some 20), none⟩,
    ⟨.build [.int .u8 0, .slice .nil 0 1 []] [(0, 1, .p 16), (1, 1, .t 20)], (some 21), none⟩,
    ⟨.call 67 [(.p 21, false)], (some 22), none⟩,
    ⟨.assign (.p 22), (some 2), none⟩]
@[simp] def eq172_0 := id q172_0.eq_1
def q172_1 : List AOper :=
  [⟨.mkIface 241 (.c (.str [101, 108, 101, 109, 101, 110, 116, 32, 105, 115, 32, 109, 105, 115, 115, 105, 110, 103, 32, 107, 101, 121])), (some 13), none⟩,
    ⟨.assign (.p 13), (some 2), none⟩]
@[simp] def eq172_1 := id q172_1.eq_1
def q172_2 : List AOper :=
  [⟨.move .head (.p 3), (some 11), none⟩,
    ⟨.bin .eql 1 true (.p 11) (.c (.int .i64 (-1))), (some 12), none⟩]
@[simp] def eq172_2 := id q172_2.eq_1
def q172_3 : List AOper :=
  [⟨.move .look (.t 0), (some 8), none⟩,
    ⟨.sliceSl 1 (.t 8) (some (.c (.int .i64 1))) none, (some 9), none⟩,
    ⟨.call 220 [(.t 9, false), (.c (.int .u8 0), false)], (some 10), none⟩,
    ⟨.assign (.p 10), (some 3), none⟩]
@[simp] def eq172_3 := id q172_3.eq_1
def q172_4 : List AOper :=
  [⟨.mkIface 241 (.c (.str [101, 108, 101, 109, 101, 110, 116, 32, 105, 115, 32, 109, 105, 115, 115, 105, 110, 103, 32, 116, 121, 112, 101])), (some 7), none⟩,
    ⟨.assign (.p 7), (some 2), none⟩]
@[simp] def eq172_4 := id q172_4.eq_1
def q172_5 : List AOper :=
  [⟨.move .head (.t 0), (some 4), none⟩,
    ⟨.len false (.p 4), (some 5), none⟩,
    ⟨.bin .lss 1 true (.p 5) (.c (.int .i64 1)), (some 6), none⟩]
@[simp] def eq172_5 := id q172_5.eq_1
def k172_0 : ACode :=
  .ops q172_0 .ret
@[simp] theorem xk172_0 : GoC fns Q s k172_0 st ↔ GoO fns Q s q172_0 .ret st := goC_ops
def k172_1 : ACode :=
  .ops q172_1 .ret
@[simp] theorem xk172_1 : GoC fns Q s k172_1 st ↔ GoO fns Q s q172_1 .ret st := goC_ops
def k172_2 : ACode :=
  .cond (.p 12) k172_1 .skip
@[simp] theorem xk172_2 : GoC fns Q s k172_2 st ↔ GB fns Q s (peek st (.p 12)) k172_1 .skip st := goC_cond
def k172_3 : ACode :=
  .seq k172_2 k172_0
@[simp] theorem xk172_3 : GoC fns Q s k172_3 st ↔ GoC fns Q (.sq k172_0 :: s) k172_2 st := goC_seq
def k172_4 : ACode :=
  .ops q172_2 k172_3
@[simp] theorem xk172_4 : GoC fns Q s k172_4 st ↔ GoO fns Q s q172_2 k172_3 st := goC_ops
def k172_5 : ACode :=
  .ops q172_3 k172_4
@[simp] theorem xk172_5 : GoC fns Q s k172_5 st ↔ GoO fns Q s q172_3 k172_4 st := goC_ops
def k172_6 : ACode :=
  .ops q172_4 .ret
@[simp] theorem xk172_6 : GoC fns Q s k172_6 st ↔ GoO fns Q s q172_4 .ret st := goC_ops
def k172_7 : ACode :=
  .cond (.p 6) k172_6 .skip
@[simp] theorem xk172_7 : GoC fns Q s k172_7 st ↔ GB fns Q s (peek st (.p 6)) k172_6 .skip st := goC_cond
def k172_8 : ACode :=
  .seq k172_7 k172_5
@[simp] theorem xk172_8 : GoC fns Q s k172_8 st ↔ GoC fns Q (.sq k172_5 :: s) k172_7 st := goC_seq
def k172_9 : ACode :=
  .ops q172_5 k172_8
@[simp] theorem xk172_9 : GoC fns Q s k172_9 st ↔ GoO fns Q s q172_5 k172_8 st := goC_ops
def k172_10 : ACode :=
  .ops [⟨.assign (.c (.nilI)), (some 2), none⟩] k172_9
@[simp] theorem xk172_10 : GoC fns Q s k172_10 st ↔ GoO fns Q s [⟨.assign (.c (.nilI)), (some 2), none⟩] k172_9 st := goC_ops
def af172 : AFunc := ⟨23, k172_10, [.tmp 2], fun _ => none⟩

theorem ok172 : ∃ hs, pFunc Tryz.prog sg hs Tryz.f172 = some af172 := ⟨fun i => 0, by kernel_rfl⟩
def q162_0 : List AOper :=
  [⟨.mkIface 240 (.c (.str [100, 111, 99, 117, 109, 101, 110, 116, 32, 111, 114, 32, 97, 114, 114, 97, 121, 32, 101, 110, 100, 32, 105, 115, 32, 109, 105, 115, 115, 105, 110, 103, 32, 110, 117, 108, 108, 32, 98, 121, 116, 101])), (some 75), none⟩,
    ⟨.assign (.p 75), (some 2), none⟩]
@[simp] def eq162_0 := id q162_0.eq_1
def q162_1 : List AOper :=
  [⟨.move .head (.t 4), (some 66), none⟩,
    ⟨.len false (.p 66), (some 67), none⟩,
    ⟨.bin .lss 1 true (.p 67) (.c (.int .i64 1)), (some 68), none⟩,
    ⟨.move .look (.p 68), (some 69), none⟩,
    ⟨.move .look (.t 4), (some 70), (some (69, false))⟩,
    ⟨.indexAddr 1 (.t 70) (.c (.int .i64 0)), (some 71), (some (69, false))⟩,
    ⟨.load .head false 1 (.p 71), (some 72), (some (69, false))⟩,
    ⟨.bin .neq 1 true (.p 72) (.c (.int .u8 0)), (some 73), (some (69, false))⟩,
    ⟨.pick (.p 69) (.c (.bool true)) (.p 73), (some 74), none⟩]
@[simp] def eq162_1 := id q162_1.eq_1
def q162_2 : List AOper :=
  [⟨.move .take (.p 7), (some 65), none⟩,
    ⟨.assign (.p 65), (some 2), none⟩]
@[simp] def eq162_2 := id q162_2.eq_1
def q162_3 : List AOper :=
  [⟨.move .head (.p 7), (some 63), none⟩,
    ⟨.bin .neq 5 true (.p 63) (.c (.nilI)), (some 64), none⟩]
@[simp] def eq162_3 := id q162_3.eq_1
def q162_4 : List AOper :=
  [⟨.move .look (.t 6), (some 61), none⟩,
    ⟨.call 172 [(.t 61, false)], (some 62), none⟩,
    ⟨.assign (.p 62), (some 7), none⟩]
@[simp] def eq162_4 := id q162_4.eq_1
def q162_5 : List AOper :=
  [⟨.move .look (.t 0), (some 57), none⟩,
    ⟨.move .look (.t 4), (some 58), none⟩,
    ⟨.call 166 [(.t 57, false), (.t 58, false)], (some 59), none⟩,
    ⟨.mkIface 239 (.p 59), (some 60), none⟩,
    ⟨.assign (.p 60), (some 2), none⟩]
@[simp] def eq162_5 := id q162_5.eq_1
def q162_6 : List AOper :=
  [⟨.move .look (.p 5), (some 55), none⟩,
    ⟨.un .not (.p 55), (some 56), none⟩]
@[simp] def eq162_6 := id q162_6.eq_1
def q162_7 : List AOper :=
  [⟨.move .look (.p 3), (some 50), none⟩,
    ⟨.move .head (.t 6), (some 51), none⟩,
    ⟨.len false (.p 51), (some 52), none⟩,
    ⟨.convInt .i32 (.p 52), (some 53), none⟩,
    ⟨.bin .sub 1 false (.p 50) (.p 53), (some 54), none⟩,
    ⟨.assign (.p 54), (some 3), none⟩]
@[simp] def eq162_7 := id q162_7.eq_1
def q162_8 : List AOper :=
  [⟨.move .look (.t 4), (some 45), none⟩,
    ⟨.call 64 [(.t 45, false)], (some 46), none⟩,
    ⟨.move .look (.t 46), (some 44), none⟩,
    ⟨.extract 44 0, (some 47), none⟩,
    ⟨.extract 44 1, (some 48), none⟩,
    ⟨.extract 44 2, (some 49), none⟩,
    ⟨.assign (.t 47), (some 6), none⟩,
    ⟨.assign (.t 48), (some 4), none⟩,
    ⟨.assign (.p 49), (some 5), none⟩]
@[simp] def eq162_8 := id q162_8.eq_1
def q162_9 : List AOper :=
  [⟨.move .look (.p 3), (some 42), none⟩,
    ⟨.bin .gtr 1 true (.p 42) (.c (.int .i32 1)), (some 43), none⟩]
@[simp] def eq162_9 := id q162_9.eq_1
def q162_10 : List AOper :=
  [⟨.move .look (.p 3), (some 40), none⟩,
    ⟨.bin .sub 1 true (.p 40) (.c (.int .i32 4)), (some 41), none⟩,
    ⟨.assign (.p 41), (some 3), none⟩]
@[simp] def eq162_10 := id q162_10.eq_1
def q162_11 : List AOper :=
  [⟨.mkIface 240 (.c (.str [100, 111, 99, 117, 109, 101, 110, 116, 32, 111, 114, 32, 97, 114, 114, 97, 121, 32, 101, 110, 100, 32, 105, 115, 32, 109, 105, 115, 115, 105, 110, 103, 32, 110, 117, 108, 108, 32, 98, 121, 116, 101])), (some 39), none⟩,
    ⟨.assign (.p 39), (some 2), none⟩]
@[simp] def eq162_11 := id q162_11.eq_1
def q162_12 : List AOper :=
  [⟨.move .look (.t 0), (some 33), none⟩,
    ⟨.move .look (.p 3), (some 34), none⟩,
    ⟨.bin .sub 1 true (.p 34) (.c (.int .i32 1)), (some 35), none⟩,
    ⟨.indexAddr 1 (.t 33) (.p 35), (some 36), none⟩,
    ⟨.load .head false 1 (.p 36), (some 37), none⟩,
    ⟨.bin .neq 1 true (.p 37) (.c (.int .u8 0)), (some 38), none⟩]
@[simp] def eq162_12 := id q162_12.eq_1
def q162_13 : List AOper :=
  [⟨.mkIface 240 (.c (.str [100, 111, 99, 117, 109, 101, 110, 116, 32, 111, 114, 32, 97, 114, 114, 97, 121, 32, 108, 101, 110, 103, 116, 104, 32, 105, 115, 32, 105, 110, 118, 97, 108, 105, 100])), (some 32), none⟩,
    ⟨.assign (.p 32), (some 2), none⟩]
@[simp] def eq162_13 := id q162_13.eq_1
def q162_14 : List AOper :=
  [⟨.move .look (.p 3), (some 30), none⟩,
    ⟨.bin .lss 1 true (.p 30) (.c (.int .i32 5)), (some 31), none⟩]
@[simp] def eq162_14 := id q162_14.eq_1
def q162_15 : List AOper :=
  [⟨.move .look (.p 3), (some 25), none⟩,
    ⟨.convInt .i64 (.p 25), (some 26), none⟩,
    ⟨.move .head (.t 0), (some 27), none⟩,
    ⟨.len false (.p 27), (some 28), none⟩,
    ⟨.call 219 [(.p 26, false), (.p 28, false)], (some 29), none⟩,
    ⟨.assign (.p 29), (some 2), none⟩]
@[simp] def eq162_15 := id q162_15.eq_1
def q162_16 : List AOper :=
  [⟨.move .look (.p 3), (some 20), none⟩,
    ⟨.convInt .i64 (.p 20), (some 21), none⟩,
    ⟨.move .head (.t 0), (some 22), none⟩,
    ⟨.len false (.p 22), (some 23), none⟩,
    ⟨.bin .gtr 1 false (.p 21) (.p 23), (some 24), none⟩]
@[simp] def eq162_16 := id q162_16.eq_1
def q162_17 : List AOper :=
  [⟨.move .look (.t 0), (some 16), none⟩,
    ⟨.move .look (.t 4), (some 17), none⟩,
    ⟨.call 166 [(.t 16, false), (.t 17, false)], (some 18), none⟩,
    ⟨.mkIface 239 (.p 18), (some 19), none⟩,
    ⟨.assign (.p 19), (some 2), none⟩]
@[simp] def eq162_17 := id q162_17.eq_1
def q162_18 : List AOper :=
  [⟨.move .look (.p 5), (some 14), none⟩,
    ⟨.un .not (.p 14), (some 15), none⟩]
@[simp] def eq162_18 := id q162_18.eq_1
def q162_19 : List AOper :=
  [⟨.move .look (.t 0), (some 9), none⟩,
    ⟨.call 54 [(.t 9, false)], (some 10), none⟩,
    ⟨.move .look (.t 10), (some 8), none⟩,
    ⟨.extract 8 0, (some 11), none⟩,
    ⟨.extract 8 1, (some 12), none⟩,
    ⟨.extract 8 2, (some 13), none⟩,
    ⟨.assign (.p 11), (some 3), none⟩,
    ⟨.assign (.t 12), (some 4), none⟩,
    ⟨.assign (.p 13), (some 5), none⟩]
@[simp] def eq162_19 := id q162_19.eq_1
def k162_0 : ACode :=
  .ops [⟨.assign (.c (.nilI)), (some 2), none⟩] .ret
@[simp] theorem xk162_0 : GoC fns Q s k162_0 st ↔ GoO fns Q s [⟨.assign (.c (.nilI)), (some 2), none⟩] .ret st := goC_ops
def k162_1 : ACode :=
  .ops q162_0 .ret
@[simp] theorem xk162_1 : GoC fns Q s k162_1 st ↔ GoO fns Q s q162_0 .ret st := goC_ops
def k162_2 : ACode :=
  .cond (.p 74) k162_1 .skip
@[simp] theorem xk162_2 : GoC fns Q s k162_2 st ↔ GB fns Q s (peek st (.p 74)) k162_1 .skip st := goC_cond
def k162_3 : ACode :=
  .seq k162_2 k162_0
@[simp] theorem xk162_3 : GoC fns Q s k162_3 st ↔ GoC fns Q (.sq k162_0 :: s) k162_2 st := goC_seq
def k162_4 : ACode :=
  .ops q162_1 k162_3
@[simp] theorem xk162_4 : GoC fns Q s k162_4 st ↔ GoO fns Q s q162_1 k162_3 st := goC_ops
def k162_5 : ACode :=
  .ops q162_2 .ret
@[simp] theorem xk162_5 : GoC fns Q s k162_5 st ↔ GoO fns Q s q162_2 .ret st := goC_ops
def k162_6 : ACode :=
  .cond (.p 64) k162_5 .skip
@[simp] theorem xk162_6 : GoC fns Q s k162_6 st ↔ GB fns Q s (peek st (.p 64)) k162_5 .skip st := goC_cond
def k162_7 : ACode :=
  .ops q162_3 k162_6
@[simp] theorem xk162_7 : GoC fns Q s k162_7 st ↔ GoO fns Q s q162_3 k162_6 st := goC_ops
def k162_8 : ACode :=
  .ops q162_4 k162_7
@[simp] theorem xk162_8 : GoC fns Q s k162_8 st ↔ GoO fns Q s q162_4 k162_7 st := goC_ops
def k162_9 : ACode :=
  .ops q162_5 .ret
@[simp] theorem xk162_9 : GoC fns Q s k162_9 st ↔ GoO fns Q s q162_5 .ret st := goC_ops
def k162_10 : ACode :=
  .cond (.p 56) k162_9 .skip
@[simp] theorem xk162_10 : GoC fns Q s k162_10 st ↔ GB fns Q s (peek st (.p 56)) k162_9 .skip st := goC_cond
def k162_11 : ACode :=
  .seq k162_10 k162_8
@[simp] theorem xk162_11 : GoC fns Q s k162_11 st ↔ GoC fns Q (.sq k162_8 :: s) k162_10 st := goC_seq
def k162_12 : ACode :=
  .ops q162_6 k162_11
@[simp] theorem xk162_12 : GoC fns Q s k162_12 st ↔ GoO fns Q s q162_6 k162_11 st := goC_ops
def k162_13 : ACode :=
  .ops q162_7 k162_12
@[simp] theorem xk162_13 : GoC fns Q s k162_13 st ↔ GoO fns Q s q162_7 k162_12 st := goC_ops
def k162_14 : ACode :=
  .ops q162_8 k162_13
@[simp] theorem xk162_14 : GoC fns Q s k162_14 st ↔ GoO fns Q s q162_8 k162_13 st := goC_ops
def k162_15 : ACode :=
  .block 1 k162_14
@[simp] theorem xk162_15 : GoC fns Q s k162_15 st ↔ GoC fns Q (.bl 1 :: s) k162_14 st := goC_block
def k162_16 : ACode :=
  .cond (.p 43) .skip (.exit 0)
@[simp] theorem xk162_16 : GoC fns Q s k162_16 st ↔ GB fns Q s (peek st (.p 43)) .skip (.exit 0) st := goC_cond
def k162_17 : ACode :=
  .seq k162_16 k162_15
@[simp] theorem xk162_17 : GoC fns Q s k162_17 st ↔ GoC fns Q (.sq k162_15 :: s) k162_16 st := goC_seq
def k162_18 : ACode :=
  .ops q162_9 k162_17
@[simp] theorem xk162_18 : GoC fns Q s k162_18 st ↔ GoO fns Q s q162_9 k162_17 st := goC_ops
def lc162_0 : ACode :=
  k162_18
@[simp] theorem xlc162_0 : GoC fns Q s lc162_0 st ↔ GoC fns Q s k162_18 st := Iff.rfl
def k162_20 : ACode :=
  .loop lc162_0
@[simp] theorem xk162_20 : GoC fns Q s k162_20 st ↔ (LoopR fns lc162_0 st fun r => GoE fns Q s r.1 r.2) := goC_loop
def k162_21 : ACode :=
  .block 0 k162_20
@[simp] theorem xk162_21 : GoC fns Q s k162_21 st ↔ GoC fns Q (.bl 0 :: s) k162_20 st := goC_block
def k162_22 : ACode :=
  .seq k162_21 k162_4
@[simp] theorem xk162_22 : GoC fns Q s k162_22 st ↔ GoC fns Q (.sq k162_4 :: s) k162_21 st := goC_seq
def k162_23 : ACode :=
  .ops [⟨.assign (.c (.slice .nil 0 1 [])), (some 6), none⟩] k162_22
@[simp] theorem xk162_23 : GoC fns Q s k162_23 st ↔ GoO fns Q s [⟨.assign (.c (.slice .nil 0 1 [])), (some 6), none⟩] k162_22 st := goC_ops
def k162_24 : ACode :=
  .ops q162_10 k162_23
@[simp] theorem xk162_24 : GoC fns Q s k162_24 st ↔ GoO fns Q s q162_10 k162_23 st := goC_ops
def k162_25 : ACode :=
  .ops q162_11 .ret
@[simp] theorem xk162_25 : GoC fns Q s k162_25 st ↔ GoO fns Q s q162_11 .ret st := goC_ops
def k162_26 : ACode :=
  .cond (.p 38) k162_25 .skip
@[simp] theorem xk162_26 : GoC fns Q s k162_26 st ↔ GB fns Q s (peek st (.p 38)) k162_25 .skip st := goC_cond
def k162_27 : ACode :=
  .seq k162_26 k162_24
@[simp] theorem xk162_27 : GoC fns Q s k162_27 st ↔ GoC fns Q (.sq k162_24 :: s) k162_26 st := goC_seq
def k162_28 : ACode :=
  .ops q162_12 k162_27
@[simp] theorem xk162_28 : GoC fns Q s k162_28 st ↔ GoO fns Q s q162_12 k162_27 st := goC_ops
def k162_29 : ACode :=
  .ops q162_13 .ret
@[simp] theorem xk162_29 : GoC fns Q s k162_29 st ↔ GoO fns Q s q162_13 .ret st := goC_ops
def k162_30 : ACode :=
  .cond (.p 31) k162_29 .skip
@[simp] theorem xk162_30 : GoC fns Q s k162_30 st ↔ GB fns Q s (peek st (.p 31)) k162_29 .skip st := goC_cond
def k162_31 : ACode :=
  .seq k162_30 k162_28
@[simp] theorem xk162_31 : GoC fns Q s k162_31 st ↔ GoC fns Q (.sq k162_28 :: s) k162_30 st := goC_seq
def k162_32 : ACode :=
  .ops q162_14 k162_31
@[simp] theorem xk162_32 : GoC fns Q s k162_32 st ↔ GoO fns Q s q162_14 k162_31 st := goC_ops
def k162_33 : ACode :=
  .ops q162_15 .ret
@[simp] theorem xk162_33 : GoC fns Q s k162_33 st ↔ GoO fns Q s q162_15 .ret st := goC_ops
def k162_34 : ACode :=
  .cond (.p 24) k162_33 .skip
@[simp] theorem xk162_34 : GoC fns Q s k162_34 st ↔ GB fns Q s (peek st (.p 24)) k162_33 .skip st := goC_cond
def k162_35 : ACode :=
  .seq k162_34 k162_32
@[simp] theorem xk162_35 : GoC fns Q s k162_35 st ↔ GoC fns Q (.sq k162_32 :: s) k162_34 st := goC_seq
def k162_36 : ACode :=
  .ops q162_16 k162_35
@[simp] theorem xk162_36 : GoC fns Q s k162_36 st ↔ GoO fns Q s q162_16 k162_35 st := goC_ops
def k162_37 : ACode :=
  .ops q162_17 .ret
@[simp] theorem xk162_37 : GoC fns Q s k162_37 st ↔ GoO fns Q s q162_17 .ret st := goC_ops
def k162_38 : ACode :=
  .cond (.p 15) k162_37 .skip
@[simp] theorem xk162_38 : GoC fns Q s k162_38 st ↔ GB fns Q s (peek st (.p 15)) k162_37 .skip st := goC_cond
def k162_39 : ACode :=
  .seq k162_38 k162_36
@[simp] theorem xk162_39 : GoC fns Q s k162_39 st ↔ GoC fns Q (.sq k162_36 :: s) k162_38 st := goC_seq
def k162_40 : ACode :=
  .ops q162_18 k162_39
@[simp] theorem xk162_40 : GoC fns Q s k162_40 st ↔ GoO fns Q s q162_18 k162_39 st := goC_ops
def k162_41 : ACode :=
  .ops q162_19 k162_40
@[simp] theorem xk162_41 : GoC fns Q s k162_41 st ↔ GoO fns Q s q162_19 k162_40 st := goC_ops
def k162_42 : ACode :=
  .ops [⟨.assign (.c (.nilI)), (some 2), none⟩] k162_41
@[simp] theorem xk162_42 : GoC fns Q s k162_42 st ↔ GoO fns Q s [⟨.assign (.c (.nilI)), (some 2), none⟩] k162_41 st := goC_ops
def af162 : AFunc := ⟨76, k162_42, [.tmp 2], fun _ => none⟩

theorem ok162 : ∃ hs, pFunc Tryz.prog sg hs Tryz.f162 = some af162 := ⟨fun i => 0, by kernel_rfl⟩
def q59_0 : List AOper :=
  [⟨.move .look (.t 0), (some 3), none⟩,
    ⟨.call 162 [(.t 3, false)], (some 4), none⟩,
    ⟨.call 65 [(.p 4, false)], (some 5), none⟩,
    ⟨.assign (.p 5), (some 2), none⟩]
@[simp] def eq59_0 := id q59_0.eq_1
def k59_0 : ACode :=
  .ops q59_0 .ret
@[simp] theorem xk59_0 : GoC fns Q s k59_0 st ↔ GoO fns Q s q59_0 .ret st := goC_ops
def k59_1 : ACode :=
  .ops [⟨.assign (.c (.int .i64 0)), (some 2), none⟩] k59_0
@[simp] theorem xk59_1 : GoC fns Q s k59_1 st ↔ GoO fns Q s [⟨.assign (.c (.int .i64 0)), (some 2), none⟩] k59_0 st := goC_ops
def af59 : AFunc := ⟨6, k59_1, [.tmp 2], fun _ => none⟩

theorem ok59 : ∃ hs, pFunc Tryz.prog sg hs Tryz.f59 = some af59 := ⟨fun i => 0, by kernel_rfl⟩
def q14_0 : List AOper :=
  [⟨.move .look (.t 1), (some 23), none⟩,
    ⟨.convBS (.t 23), (some 24), none⟩,
    ⟨.bin .eql 2 true (.p 24) (.c (.str [12, 0, 0, 0, 16, 97, 0, 7, 0, 0, 0, 0])), (some 25), none⟩,
    ⟨.move .look (.p 25), (some 26), none⟩,
    ⟨.move .look (.p 4), (some 27), (some (26, true))⟩,
    ⟨.pick (.p 26) (.p 27) (.c (.bool false)), (some 28), none⟩,
    ⟨.move .look (.p 28), (some 29), none⟩,
    ⟨.fieldAddr 3 (.p 2), (some 30), (some (29, true))⟩,
    ⟨.load .head false 1 (.p 30), (some 31), (some (29, true))⟩,
    ⟨.bin .eql 1 true (.p 31) (.c (.int .i64 7)), (some 32), (some (29, true))⟩,
    ⟨.pick (.p 29) (.p 32) (.c (.bool false)), (some 33), none⟩,
    ⟨.move .look (.p 33), (some 34), none⟩,
    ⟨.move .head (.t 3), (some 35), (some (34, true))⟩,
    ⟨.len false (.p 35), (some 36), (some (34, true))⟩,
    ⟨.bin .eql 1 true (.p 36) (.c (.int .i64 1)), (some 37), (some (34, true))⟩,
    ⟨.pick (.p 34) (.p 37) (.c (.bool false)), (some 38), none⟩,
    ⟨.move .look (.p 38), (some 39), none⟩,
    ⟨.move .head (.p 6), (some 40), (some (39, true))⟩,
    ⟨.bin .eql 1 true (.p 40) (.c (.int .i64 0)), (some 41), (some (39, true))⟩,
    ⟨.pick (.p 39) (.p 41) (.c (.bool false)), (some 42), none⟩,
    ⟨.move .look (.p 42), (some 43), none⟩,
    ⟨.fieldAddr 0 (.p 5), (some 44), (some (43, true))⟩,
    ⟨.load .head false 1 (.p 44), (some 45), (some (43, true))⟩,
    ⟨.bin .eql 1 true (.p 45) (.c (.int .i64 16)), (some 46), (some (43, true))⟩,
    ⟨.pick (.p 43) (.p 46) (.c (.bool false)), (some 47), none⟩,
    ⟨.move .look (.p 47), (some 48), none⟩,
    ⟨.fieldAddr 1 (.p 5), (some 49), (some (48, true))⟩,
    ⟨.load .head false 1 (.p 49), (some 50), (some (48, true))⟩,
    ⟨.len false (.p 50), (some 51), (some (48, true))⟩,
    ⟨.bin .eql 1 true (.p 51) (.c (.int .i64 4)), (some 52), (some (48, true))⟩,
    ⟨.pick (.p 48) (.p 52) (.c (.bool false)), (some 53), none⟩,
    ⟨.move .look (.p 53), (some 54), none⟩,
    ⟨.move .look (.t 1), (some 55), (some (54, true))⟩,
    ⟨.sliceSl 1 (.t 55) none (some (.c (.int .i64 11))), (some 56), (some (54, true))⟩,
    ⟨.call 59 [(.t 56, false)], (some 57), (some (54, true))⟩,
    ⟨.bin .neq 1 true (.p 57) (.c (.int .i64 0)), (some 58), (some (54, true))⟩,
    ⟨.pick (.p 54) (.p 58) (.c (.bool false)), (some 59), none⟩,
    ⟨.assign (.p 59), (some 0), none⟩]
@[simp] def eq14_0 := id q14_0.eq_1
def q14_1 : List AOper :=
  [⟨.move .look (.t 1), (some 18), none⟩,
    ⟨.buildSl 9 1 [.str []] [(0, 1, .c (.str [97]))], (some 19), none⟩,
    ⟨.call 58 [(.t 18, false), (.t 19, false)], (some 20), none⟩,
    ⟨.move .look (.t 20), (some 17), none⟩,
    ⟨.extract 17 0, (some 21), none⟩,
    ⟨.extract 17 1, (some 22), none⟩,
    ⟨.newbox 5 [.int .i64 0, .slice .nil 0 1 []], (some 5), none⟩,
    ⟨.store 2 (.p 5) (.p 21), none, none⟩,
    ⟨.assign (.p 22), (some 6), none⟩]
@[simp] def eq14_1 := id q14_1.eq_1
def q14_2 : List AOper :=
  [⟨.buildSl 5 1 [.int .u8 0, .int .u8 0, .int .u8 0, .int .u8 0, .int .u8 0] [(0, 1, .c (.int .u8 7)), (1, 1, .c (.int .u8 0)), (2, 1, .c (.int .u8 0)), (3, 1, .c (.int .u8 0)), (4, 1, .c (.int .u8 9))], (some 12), none⟩,
    ⟨.call 57 [(.c (.int .i64 16), false), (.t 12, false)], (some 13), none⟩,
    ⟨.move .look (.t 13), (some 11), none⟩,
    ⟨.extract 11 0, (some 14), none⟩,
    ⟨.extract 11 1, (some 15), none⟩,
    ⟨.extract 11 2, (some 16), none⟩,
    ⟨.newbox 2 [.int .i64 0, .str [], .str [], .int .i64 0, .int .u64 0, .int .u64 0, .slice .nil 0 1 [], .slice .nil 0 1 []], (some 2), none⟩,
    ⟨.store 8 (.p 2) (.p 14), none, none⟩,
    ⟨.assign (.t 15), (some 3), none⟩,
    ⟨.assign (.p 16), (some 4), none⟩]
@[simp] def eq14_2 := id q14_2.eq_1
def q14_3 : List AOper :=
  [⟨.build [.int .i64 0, .str [], .str [], .int .i64 0, .int .u64 0, .int .u64 0, .slice .nil 0 1 [], .slice .nil 0 1 []] [(0, 1, .c (.int .i64 16)), (3, 1, .c (.int .i64 7))], (some 7), none⟩,
    ⟨.build [.str [], .int .i64 0, .str [], .str [], .int .i64 0, .int .u64 0, .int .u64 0, .slice .nil 0 1 [], .slice .nil 0 1 []] [(0, 1, .c (.str [97])), (1, 8, .p 7)], (some 8), none⟩,
    ⟨.buildSl 66 9 [.str [], .int .i64 0, .str [], .str [], .int .i64 0, .int .u64 0, .int .u64 0, .slice .nil 0 1 [], .slice .nil 0 1 []] [(0, 9, .p 8)], (some 9), none⟩,
    ⟨.call 56 [(.t 9, false)], (some 10), none⟩,
    ⟨.assign (.t 10), (some 1), none⟩]
@[simp] def eq14_3 := id q14_3.eq_1
def k14_0 : ACode :=
  .ops q14_0 .ret
@[simp] theorem xk14_0 : GoC fns Q s k14_0 st ↔ GoO fns Q s q14_0 .ret st := goC_ops
def k14_1 : ACode :=
  .ops q14_1 k14_0
@[simp] theorem xk14_1 : GoC fns Q s k14_1 st ↔ GoO fns Q s q14_1 k14_0 st := goC_ops
def k14_2 : ACode :=
  .ops q14_2 k14_1
@[simp] theorem xk14_2 : GoC fns Q s k14_2 st ↔ GoO fns Q s q14_2 k14_1 st := goC_ops
def k14_3 : ACode :=
  .ops q14_3 k14_2
@[simp] theorem xk14_3 : GoC fns Q s k14_3 st ↔ GoO fns Q s q14_3 k14_2 st := goC_ops
def k14_4 : ACode :=
  .ops [⟨.assign (.c (.bool false)), (some 0), none⟩] k14_3
@[simp] theorem xk14_4 : GoC fns Q s k14_4 st ↔ GoO fns Q s [⟨.assign (.c (.bool false)), (some 0), none⟩] k14_3 st := goC_ops
def af14 : AFunc := ⟨60, k14_4, [.tmp 0], fun _ => none⟩

theorem ok14 : ∃ hs, pFunc Tryz.prog sg hs Tryz.f14 = some af14 := ⟨fun i => 0, by kernel_rfl⟩
def q20_0 : List AOper :=
  [⟨.fieldAddr 0 (.p 3), (some 7), none⟩,
    ⟨.load .head false 1 (.p 7), (some 8), none⟩,
    ⟨.move .head (.p 1), (some 9), none⟩,
    ⟨.bin .eql 1 false (.p 8) (.p 9), (some 10), none⟩,
    ⟨.move .look (.p 10), (some 11), none⟩,
    ⟨.fieldAddr 1 (.p 3), (some 12), (some (11, true))⟩,
    ⟨.load .look false 1 (.p 12), (some 13), (some (11, true))⟩,
    ⟨.convBS (.t 13), (some 14), (some (11, true))⟩,
    ⟨.move .look (.t 2), (some 15), (some (11, true))⟩,
    ⟨.convBS (.t 15), (some 16), (some (11, true))⟩,
    ⟨.bin .eql 2 false (.p 14) (.p 16), (some 17), (some (11, true))⟩,
    ⟨.pick (.p 11) (.p 17) (.c (.bool false)), (some 18), none⟩,
    ⟨.assign (.p 18), (some 6), none⟩]
@[simp] def eq20_0 := id q20_0.eq_1
def q20_1 : List AOper :=
  [⟨.box 3 (.p 0), (some 3), none⟩,
    ⟨.assign (.c (.bool false)), (some 6), none⟩]
@[simp] def eq20_1 := id q20_1.eq_1
def k20_0 : ACode :=
  .ops q20_0 .ret
@[simp] theorem xk20_0 : GoC fns Q s k20_0 st ↔ GoO fns Q s q20_0 .ret st := goC_ops
def k20_1 : ACode :=
  .ops q20_1 k20_0
@[simp] theorem xk20_1 : GoC fns Q s k20_1 st ↔ GoO fns Q s q20_1 k20_0 st := goC_ops
def af20 : AFunc := ⟨19, k20_1, [.tmp 6], fun _ => none⟩

theorem ok20 : ∃ hs, pFunc Tryz.prog sg hs Tryz.f20 = some af20 := ⟨fun i => 0, by kernel_rfl⟩
def q66_0 : List AOper :=
  [⟨.fieldAddr 0 (.p 1), (some 3), none⟩,
    ⟨.load .look false 1 (.p 3), (some 4), none⟩,
    ⟨.convInt .u8 (.p 4), (some 5), none⟩,
    ⟨.fieldAddr 1 (.p 1), (some 6), none⟩,
    ⟨.load .look false 1 (.p 6), (some 7), none⟩,
    ⟨.build [.int .u8 0, .slice .nil 0 1 []] [(0, 1, .p 5), (1, 1, .t 7)], (some 8), none⟩,
    ⟨.store 2 (.p 2) (.p 8), none, none⟩]
@[simp] def eq66_0 := id q66_0.eq_1
def q66_1 : List AOper :=
  [⟨.box 1 (.p 0), (some 1), none⟩,
    ⟨.newbox 2 [.int .u8 0, .slice .nil 0 1 []], (some 2), none⟩]
@[simp] def eq66_1 := id q66_1.eq_1
def k66_0 : ACode :=
  .ops q66_0 .ret
@[simp] theorem xk66_0 : GoC fns Q s k66_0 st ↔ GoO fns Q s q66_0 .ret st := goC_ops
def k66_1 : ACode :=
  .ops q66_1 k66_0
@[simp] theorem xk66_1 : GoC fns Q s k66_1 st ↔ GoO fns Q s q66_1 k66_0 st := goC_ops
def af66 : AFunc := ⟨9, k66_1, [.cell 2 true 2], fun _ => none⟩

theorem ok66 : ∃ hs, pFunc Tryz.prog sg hs Tryz.f66 = some af66 := ⟨fun i => 0, by kernel_rfl⟩
def q21_0 : List AOper :=
  [⟨.load .look true 2 (.p 1), (some 3), none⟩,
    ⟨.call 66 [(.p 3, false)], (some 4), none⟩,
    ⟨.call 67 [(.p 4, false)], (some 5), none⟩,
    ⟨.call 65 [(.p 5, false)], (some 6), none⟩,
    ⟨.assign (.p 6), (some 2), none⟩]
@[simp] def eq21_0 := id q21_0.eq_1
def q21_1 : List AOper :=
  [⟨.box 1 (.p 0), (some 1), none⟩,
    ⟨.assign (.c (.int .i64 0)), (some 2), none⟩]
@[simp] def eq21_1 := id q21_1.eq_1
def k21_0 : ACode :=
  .ops q21_0 .ret
@[simp] theorem xk21_0 : GoC fns Q s k21_0 st ↔ GoO fns Q s q21_0 .ret st := goC_ops
def k21_1 : ACode :=
  .ops q21_1 k21_0
@[simp] theorem xk21_1 : GoC fns Q s k21_1 st ↔ GoO fns Q s q21_1 k21_0 st := goC_ops
def af21 : AFunc := ⟨7, k21_1, [.tmp 2], fun _ => none⟩

theorem ok21 : ∃ hs, pFunc Tryz.prog sg hs Tryz.f21 = some af21 := ⟨fun i => 0, by kernel_rfl⟩
def q4_0 : List AOper :=
  [⟨.call 14 [], (some 88), none⟩,
    ⟨.move .look (.p 88), (some 89), none⟩,
    ⟨.move .look (.p 6), (some 90), (some (89, true))⟩,
    ⟨.un .not (.p 90), (some 91), (some (89, true))⟩,
    ⟨.move .look (.p 91), (some 92), (some (89, true))⟩,
    ⟨.load .look true 2 (.p 7), (some 93), (some (92, false))⟩,
    ⟨.move .look (.p 0), (some 94), (some (92, false))⟩,
    ⟨.convInt .i64 (.p 94), (some 95), (some (92, false))⟩,
    ⟨.move .look (.t 1), (some 96), (some (92, false))⟩,
    ⟨.move .head (.p 5), (some 97), (some (92, false))⟩,
    ⟨.sliceSl 1 (.t 96) none (some (.p 97)), (some 98), (some (92, false))⟩,
    ⟨.call 20 [(.p 93, false), (.p 95, false), (.t 98, false)], (some 99), (some (92, false))⟩,
    ⟨.pick (.p 92) (.c (.bool true)) (.p 99), (some 100), (some (89, true))⟩,
    ⟨.pick (.p 89) (.p 100) (.c (.bool false)), (some 101), none⟩,
    ⟨.move .look (.p 101), (some 102), none⟩,
    ⟨.move .look (.p 0), (some 103), (some (102, true))⟩,
    ⟨.convInt .i64 (.p 103), (some 104), (some (102, true))⟩,
    ⟨.move .look (.t 1), (some 105), (some (102, true))⟩,
    ⟨.move .head (.p 6), (some 110), (some (102, true))⟩,
    ⟨.call 13 [(.t 105, false)], (some 106), (some (102, true))⟩,
    ⟨.build [.int .i64 0, .slice .nil 0 1 []] [(0, 1, .p 104), (1, 1, .t 106)], (some 107), (some (102, true))⟩,
    ⟨.call 21 [(.p 107, false)], (some 108), (some (102, true))⟩,
    ⟨.bin .eql 1 true (.p 108) (.c (.int .i64 0)), (some 109), (some (102, true))⟩,
    ⟨.bin .eql 0 false (.p 109) (.p 110), (some 111), (some (102, true))⟩,
    ⟨.pick (.p 102) (.p 111) (.c (.bool false)), (some 112), none⟩,
    ⟨.assign (.p 112), (some 4), none⟩]
@[simp] def eq4_0 := id q4_0.eq_1
def q4_1 : List AOper :=
  [⟨.move .head (.p 9), (some 53), none⟩,
    ⟨.move .head (.p 6), (some 54), none⟩,
    ⟨.bin .neq 0 false (.p 53) (.p 54), (some 55), none⟩,
    ⟨.move .look (.p 55), (some 56), none⟩,
    ⟨.move .head (.p 14), (some 57), (some (56, false))⟩,
    ⟨.move .head (.p 11), (some 58), (some (56, false))⟩,
    ⟨.bin .neq 0 false (.p 57) (.p 58), (some 59), (some (56, false))⟩,
    ⟨.pick (.p 56) (.c (.bool true)) (.p 59), (some 60), none⟩,
    ⟨.move .look (.p 60), (some 61), none⟩,
    ⟨.move .look (.t 8), (some 62), (some (61, false))⟩,
    ⟨.convBS (.t 62), (some 63), (some (61, false))⟩,
    ⟨.move .look (.t 1), (some 64), (some (61, false))⟩,
    ⟨.move .head (.p 5), (some 65), (some (61, false))⟩,
    ⟨.sliceSl 1 (.t 64) (some (.p 65)) none, (some 66), (some (61, false))⟩,
    ⟨.convBS (.t 66), (some 67), (some (61, false))⟩,
    ⟨.bin .neq 2 false (.p 63) (.p 67), (some 68), (some (61, false))⟩,
    ⟨.pick (.p 61) (.c (.bool true)) (.p 68), (some 69), none⟩,
    ⟨.move .look (.p 69), (some 70), none⟩,
    ⟨.move .look (.t 13), (some 71), (some (70, false))⟩,
    ⟨.convBS (.t 71), (some 72), (some (70, false))⟩,
    ⟨.move .look (.t 1), (some 73), (some (70, false))⟩,
    ⟨.move .head (.p 10), (some 74), (some (70, false))⟩,
    ⟨.sliceSl 1 (.t 73) (some (.p 74)) none, (some 75), (some (70, false))⟩,
    ⟨.convBS (.t 75), (some 76), (some (70, false))⟩,
    ⟨.bin .neq 2 false (.p 72) (.p 76), (some 77), (some (70, false))⟩,
    ⟨.pick (.p 70) (.c (.bool true)) (.p 77), (some 78), none⟩,
    ⟨.move .look (.p 78), (some 79), none⟩,
    ⟨.move .look (.t 12), (some 80), (some (79, false))⟩,
    ⟨.convBS (.t 80), (some 81), (some (79, false))⟩,
    ⟨.move .look (.t 1), (some 82), (some (79, false))⟩,
    ⟨.move .head (.p 10), (some 83), (some (79, false))⟩,
    ⟨.sliceSl 1 (.t 82) none (some (.p 83)), (some 84), (some (79, false))⟩,
    ⟨.convBS (.t 84), (some 85), (some (79, false))⟩,
    ⟨.bin .neq 2 false (.p 81) (.p 85), (some 86), (some (79, false))⟩,
    ⟨.pick (.p 79) (.c (.bool true)) (.p 86), (some 87), none⟩]
@[simp] def eq4_1 := id q4_1.eq_1
def q4_2 : List AOper :=
  [⟨.move .look (.t 1), (some 47), none⟩,
    ⟨.call 13 [(.t 47, false)], (some 48), none⟩,
    ⟨.call 19 [(.t 48, false)], (some 49), none⟩,
    ⟨.move .look (.t 49), (some 46), none⟩,
    ⟨.extract 46 0, (some 50), none⟩,
    ⟨.extract 46 1, (some 51), none⟩,
    ⟨.extract 46 2, (some 52), none⟩,
    ⟨.assign (.t 50), (some 12), none⟩,
    ⟨.assign (.t 51), (some 13), none⟩,
    ⟨.assign (.p 52), (some 14), none⟩]
@[simp] def eq4_2 := id q4_2.eq_1
def q4_3 : List AOper :=
  [⟨.move .look (.p 11), (some 44), none⟩,
    ⟨.un .not (.p 44), (some 45), none⟩]
@[simp] def eq4_3 := id q4_3.eq_1
def q4_4 : List AOper :=
  [⟨.move .look (.t 1), (some 40), none⟩,
    ⟨.call 18 [(.t 40, false)], (some 41), none⟩,
    ⟨.move .look (.t 41), (some 39), none⟩,
    ⟨.extract 39 0, (some 42), none⟩,
    ⟨.extract 39 1, (some 43), none⟩,
    ⟨.assign (.p 42), (some 10), none⟩,
    ⟨.assign (.p 43), (some 11), none⟩]
@[simp] def eq4_4 := id q4_4.eq_1
def q4_5 : List AOper :=
  [⟨.move .look (.p 0), (some 31), none⟩,
    ⟨.convInt .i64 (.p 31), (some 32), none⟩,
    ⟨.move .look (.t 1), (some 33), none⟩,
    ⟨.call 13 [(.t 33, false)], (some 34), none⟩,
    ⟨.call 17 [(.p 32, false), (.t 34, false)], (some 35), none⟩,
    ⟨.move .look (.t 35), (some 30), none⟩,
    ⟨.extract 30 0, (some 36), none⟩,
    ⟨.extract 30 1, (some 37), none⟩,
    ⟨.extract 30 2, (some 38), none⟩,
    ⟨.newbox 7 [.int .i64 0, .slice .nil 0 1 []], (some 7), none⟩,
    ⟨.store 2 (.p 7) (.p 36), none, none⟩,
    ⟨.assign (.t 37), (some 8), none⟩,
    ⟨.assign (.p 38), (some 9), none⟩]
@[simp] def eq4_5 := id q4_5.eq_1
def q4_6 : List AOper :=
  [⟨.move .look (.p 6), (some 28), none⟩,
    ⟨.un .not (.p 28), (some 29), none⟩]
@[simp] def eq4_6 := id q4_6.eq_1
def q4_7 : List AOper :=
  [⟨.move .look (.p 0), (some 22), none⟩,
    ⟨.convInt .i64 (.p 22), (some 23), none⟩,
    ⟨.move .look (.t 1), (some 24), none⟩,
    ⟨.call 16 [(.p 23, false), (.t 24, false)], (some 25), none⟩,
    ⟨.move .look (.t 25), (some 21), none⟩,
    ⟨.extract 21 0, (some 26), none⟩,
    ⟨.extract 21 1, (some 27), none⟩,
    ⟨.assign (.p 26), (some 5), none⟩,
    ⟨.assign (.p 27), (some 6), none⟩]
@[simp] def eq4_7 := id q4_7.eq_1
def q4_8 : List AOper :=
  [⟨.move .look (.t 1), (some 18), none⟩,
    ⟨.call 15 [(.t 18, false)], (some 19), none⟩,
    ⟨.un .not (.p 19), (some 20), none⟩]
@[simp] def eq4_8 := id q4_8.eq_1
def q4_9 : List AOper :=
  [⟨.move .head (.t 1), (some 15), none⟩,
    ⟨.len false (.p 15), (some 16), none⟩,
    ⟨.bin .gtr 1 true (.p 16) (.c (.int .i64 2147483647)), (some 17), none⟩]
@[simp] def eq4_9 := id q4_9.eq_1
def k4_0 : ACode :=
  .ops q4_0 .ret
@[simp] theorem xk4_0 : GoC fns Q s k4_0 st ↔ GoO fns Q s q4_0 .ret st := goC_ops
def k4_1 : ACode :=
  .ops [⟨.assign (.c (.bool false)), (some 4), none⟩] .ret
@[simp] theorem xk4_1 : GoC fns Q s k4_1 st ↔ GoO fns Q s [⟨.assign (.c (.bool false)), (some 4), none⟩] .ret st := goC_ops
def k4_2 : ACode :=
  .cond (.p 87) k4_1 .skip
@[simp] theorem xk4_2 : GoC fns Q s k4_2 st ↔ GB fns Q s (peek st (.p 87)) k4_1 .skip st := goC_cond
def k4_3 : ACode :=
  .seq k4_2 k4_0
@[simp] theorem xk4_3 : GoC fns Q s k4_3 st ↔ GoC fns Q (.sq k4_0 :: s) k4_2 st := goC_seq
def k4_4 : ACode :=
  .ops q4_1 k4_3
@[simp] theorem xk4_4 : GoC fns Q s k4_4 st ↔ GoO fns Q s q4_1 k4_3 st := goC_ops
def k4_5 : ACode :=
  .ops q4_2 k4_4
@[simp] theorem xk4_5 : GoC fns Q s k4_5 st ↔ GoO fns Q s q4_2 k4_4 st := goC_ops
def k4_6 : ACode :=
  .ops [⟨.assign (.c (.int .i64 0)), (some 10), none⟩] .skip
@[simp] theorem xk4_6 : GoC fns Q s k4_6 st ↔ GoO fns Q s [⟨.assign (.c (.int .i64 0)), (some 10), none⟩] .skip st := goC_ops
def k4_7 : ACode :=
  .cond (.p 45) k4_6 .skip
@[simp] theorem xk4_7 : GoC fns Q s k4_7 st ↔ GB fns Q s (peek st (.p 45)) k4_6 .skip st := goC_cond
def k4_8 : ACode :=
  .seq k4_7 k4_5
@[simp] theorem xk4_8 : GoC fns Q s k4_8 st ↔ GoC fns Q (.sq k4_5 :: s) k4_7 st := goC_seq
def k4_9 : ACode :=
  .ops q4_3 k4_8
@[simp] theorem xk4_9 : GoC fns Q s k4_9 st ↔ GoO fns Q s q4_3 k4_8 st := goC_ops
def k4_10 : ACode :=
  .ops q4_4 k4_9
@[simp] theorem xk4_10 : GoC fns Q s k4_10 st ↔ GoO fns Q s q4_4 k4_9 st := goC_ops
def k4_11 : ACode :=
  .ops q4_5 k4_10
@[simp] theorem xk4_11 : GoC fns Q s k4_11 st ↔ GoO fns Q s q4_5 k4_10 st := goC_ops
def k4_12 : ACode :=
  .ops [⟨.assign (.c (.int .i64 0)), (some 5), none⟩] .skip
@[simp] theorem xk4_12 : GoC fns Q s k4_12 st ↔ GoO fns Q s [⟨.assign (.c (.int .i64 0)), (some 5), none⟩] .skip st := goC_ops
def k4_13 : ACode :=
  .cond (.p 29) k4_12 .skip
@[simp] theorem xk4_13 : GoC fns Q s k4_13 st ↔ GB fns Q s (peek st (.p 29)) k4_12 .skip st := goC_cond
def k4_14 : ACode :=
  .seq k4_13 k4_11
@[simp] theorem xk4_14 : GoC fns Q s k4_14 st ↔ GoC fns Q (.sq k4_11 :: s) k4_13 st := goC_seq
def k4_15 : ACode :=
  .ops q4_6 k4_14
@[simp] theorem xk4_15 : GoC fns Q s k4_15 st ↔ GoO fns Q s q4_6 k4_14 st := goC_ops
def k4_16 : ACode :=
  .ops q4_7 k4_15
@[simp] theorem xk4_16 : GoC fns Q s k4_16 st ↔ GoO fns Q s q4_7 k4_15 st := goC_ops
def k4_17 : ACode :=
  .ops [⟨.assign (.c (.bool true)), (some 4), none⟩] .ret
@[simp] theorem xk4_17 : GoC fns Q s k4_17 st ↔ GoO fns Q s [⟨.assign (.c (.bool true)), (some 4), none⟩] .ret st := goC_ops
def k4_18 : ACode :=
  .cond (.p 20) k4_17 .skip
@[simp] theorem xk4_18 : GoC fns Q s k4_18 st ↔ GB fns Q s (peek st (.p 20)) k4_17 .skip st := goC_cond
def k4_19 : ACode :=
  .seq k4_18 k4_16
@[simp] theorem xk4_19 : GoC fns Q s k4_19 st ↔ GoC fns Q (.sq k4_16 :: s) k4_18 st := goC_seq
def k4_20 : ACode :=
  .ops q4_8 k4_19
@[simp] theorem xk4_20 : GoC fns Q s k4_20 st ↔ GoO fns Q s q4_8 k4_19 st := goC_ops
def k4_21 : ACode :=
  .ops [⟨.assign (.c (.bool true)), (some 4), none⟩] .ret
@[simp] theorem xk4_21 : GoC fns Q s k4_21 st ↔ GoO fns Q s [⟨.assign (.c (.bool true)), (some 4), none⟩] .ret st := goC_ops
def k4_22 : ACode :=
  .cond (.p 17) k4_21 .skip
@[simp] theorem xk4_22 : GoC fns Q s k4_22 st ↔ GB fns Q s (peek st (.p 17)) k4_21 .skip st := goC_cond
def k4_23 : ACode :=
  .seq k4_22 k4_20
@[simp] theorem xk4_23 : GoC fns Q s k4_23 st ↔ GoC fns Q (.sq k4_20 :: s) k4_22 st := goC_seq
def k4_24 : ACode :=
  .ops q4_9 k4_23
@[simp] theorem xk4_24 : GoC fns Q s k4_24 st ↔ GoO fns Q s q4_9 k4_23 st := goC_ops
def k4_25 : ACode :=
  .ops [⟨.assign (.c (.bool false)), (some 4), none⟩] k4_24
@[simp] theorem xk4_25 : GoC fns Q s k4_25 st ↔ GoO fns Q s [⟨.assign (.c (.bool false)), (some 4), none⟩] k4_24 st := goC_ops
def af4 : AFunc := ⟨113, k4_25, [.tmp 4], fun _ => none⟩

theorem ok4 : ∃ hs, pFunc Tryz.prog sg hs Tryz.f4 = some af4 := ⟨fun i => 0, by kernel_rfl⟩
def q171_0 : List AOper :=
  [⟨.move .look (.p 3), (some 13), none⟩,
    ⟨.move .look (.t 0), (some 14), none⟩,
    ⟨.indexAddr 1 (.t 14) (.c (.int .i64 0)), (some 15), none⟩,
    ⟨.load .look false 1 (.p 15), (some 16), none⟩,
    ⟨.convInt .i64 (.p 16), (some 17), none⟩,
    ⟨.move .look (.t 0), (some 18), none⟩,
    ⟨.move .look (.p 4), (some 19), none⟩,
    ⟨.bin .add 1 true (.c (.int .i64 1)) (.p 19), (some 20), none⟩,
    ⟨.sliceSl 1 (.t 18) (some (.p 20)) none, (some 21), none⟩,
    ⟨.move .look (.t 0), (some 23), none⟩,
    ⟨.build [.int .i64 0, .slice .nil 0 1 []] [(0, 1, .p 17), (1, 1, .t 21)], (some 22), none⟩,
    ⟨.build [.str [], .int .i64 0, .slice .nil 0 1 [], .slice .nil 0 1 []] [(0, 1, .p 13), (1, 2, .p 22), (3, 1, .t 23)], (some 24), none⟩,
    ⟨.store 4 (.p 2) (.p 24), none, none⟩]
@[simp] def eq171_0 := id q171_0.eq_1
def q171_1 : List AOper :=
  [⟨.move .look (.t 0), (some 7), none⟩,
    ⟨.sliceSl 1 (.t 7) (some (.c (.int .i64 1))) none, (some 8), none⟩,
    ⟨.call 63 [(.t 8, false)], (some 9), none⟩,
    ⟨.move .look (.t 9), (some 6), none⟩,
    ⟨.extract 6 0, (some 10), none⟩,
    ⟨.extract 6 1, (some 11), none⟩,
    ⟨.extract 6 2, (some 12), none⟩,
    ⟨.assign (.p 10), (some 3), none⟩,
    ⟨.assign (.p 11), (some 4), none⟩,
    ⟨.assign (.p 12), (some 5), none⟩]
@[simp] def eq171_1 := id q171_1.eq_1
def k171_0 : ACode :=
  .ops q171_0 .ret
@[simp] theorem xk171_0 : GoC fns Q s k171_0 st ↔ GoO fns Q s q171_0 .ret st := goC_ops
def k171_1 : ACode :=
  .ops q171_1 k171_0
@[simp] theorem xk171_1 : GoC fns Q s k171_1 st ↔ GoO fns Q s q171_1 k171_0 st := goC_ops
def k171_2 : ACode :=
  .ops [⟨.newbox 2 [.str [], .int .i64 0, .slice .nil 0 1 [], .slice .nil 0 1 []], (some 2), none⟩] k171_1
@[simp] theorem xk171_2 : GoC fns Q s k171_2 st ↔ GoO fns Q s [⟨.newbox 2 [.str [], .int .i64 0, .slice .nil 0 1 [], .slice .nil 0 1 []], (some 2), none⟩] k171_1 st := goC_ops
def af171 : AFunc := ⟨25, k171_2, [.cell 2 true 4], fun _ => none⟩

theorem ok171 : ∃ hs, pFunc Tryz.prog sg hs Tryz.f171 = some af171 := ⟨fun i => 0, by kernel_rfl⟩
def q78_0 : List AOper :=
  [⟨.move .take (.t 2), (some 50), none⟩,
    ⟨.move .take (.t 3), (some 51), none⟩,
    ⟨.assign (.t 50), (some 2), none⟩,
    ⟨.assign (.t 51), (some 3), none⟩,
    ⟨.assign (.c (.bool true)), (some 4), none⟩]
@[simp] def eq78_0 := id q78_0.eq_1
def q78_1 : List AOper :=
  [⟨.move .look (.t 3), (some 44), none⟩,
    ⟨.move .head (.p 8), (some 45), none⟩,
    ⟨.sliceSl 1 (.t 44) (some (.p 45)) none, (some 46), none⟩,
    ⟨.move .look (.p 7), (some 47), none⟩,
    ⟨.move .look (.p 8), (some 48), none⟩,
    ⟨.bin .sub 1 false (.p 47) (.p 48), (some 49), none⟩,
    ⟨.assign (.t 46), (some 3), none⟩,
    ⟨.assign (.p 49), (some 7), none⟩]
@[simp] def eq78_1 := id q78_1.eq_1
def q78_2 : List AOper :=
  [⟨.move .take (.t 2), (some 37), none⟩,
    ⟨.move .look (.t 3), (some 38), none⟩,
    ⟨.move .head (.p 8), (some 39), none⟩,
    ⟨.sliceSl 1 (.t 38) none (some (.p 39)), (some 40), none⟩,
    ⟨.call 171 [(.t 40, false)], (some 41), none⟩,
    ⟨.buildSl 62 4 [.str [], .int .i64 0, .slice .nil 0 1 [], .slice .nil 0 1 []] [(0, 4, .p 41)], (some 42), none⟩,
    ⟨.append 62 4 72 false (.t 37) (.p 42), (some 43), none⟩,
    ⟨.assign (.t 43), (some 2), none⟩]
@[simp] def eq78_2 := id q78_2.eq_1
def q78_3 : List AOper :=
  [⟨.move .take (.t 2), (some 35), none⟩,
    ⟨.move .take (.t 3), (some 36), none⟩,
    ⟨.assign (.t 35), (some 2), none⟩,
    ⟨.assign (.t 36), (some 3), none⟩,
    ⟨.assign (.c (.bool false)), (some 4), none⟩]
@[simp] def eq78_3 := id q78_3.eq_1
def q78_4 : List AOper :=
  [⟨.move .look (.p 9), (some 33), none⟩,
    ⟨.un .not (.p 33), (some 34), none⟩]
@[simp] def eq78_4 := id q78_4.eq_1
def q78_5 : List AOper :=
  [⟨.move .look (.t 3), (some 29), none⟩,
    ⟨.call 18 [(.t 29, false)], (some 30), none⟩,
    ⟨.move .look (.t 30), (some 28), none⟩,
    ⟨.extract 28 0, (some 31), none⟩,
    ⟨.extract 28 1, (some 32), none⟩,
    ⟨.assign (.p 31), (some 8), none⟩,
    ⟨.assign (.p 32), (some 9), none⟩]
@[simp] def eq78_5 := id q78_5.eq_1
def q78_6 : List AOper :=
  [⟨.move .look (.p 7), (some 26), none⟩,
    ⟨.bin .gtr 1 true (.p 26) (.c (.int .i64 1)), (some 27), none⟩]
@[simp] def eq78_6 := id q78_6.eq_1
def q78_7 : List AOper :=
  [⟨.move .look (.p 5), (some 24), none⟩,
    ⟨.bin .sub 1 true (.p 24) (.c (.int .i64 4)), (some 25), none⟩,
    ⟨.assign (.p 25), (some 7), none⟩]
@[simp] def eq78_7 := id q78_7.eq_1
def q78_8 : List AOper :=
  [⟨.move .look (.t 0), (some 22), none⟩,
    ⟨.sliceSl 1 (.t 22) (some (.c (.int .i64 4))) none, (some 23), none⟩,
    ⟨.assign (.t 23), (some 3), none⟩]
@[simp] def eq78_8 := id q78_8.eq_1
def q78_9 : List AOper :=
  [⟨.move .take (.t 0), (some 21), none⟩,
    ⟨.assign (.c (.slice .nil 0 1 [])), (some 2), none⟩,
    ⟨.assign (.t 21), (some 3), none⟩,
    ⟨.assign (.c (.bool false)), (some 4), none⟩]
@[simp] def eq78_9 := id q78_9.eq_1
def q78_10 : List AOper :=
  [⟨.move .look (.p 6), (some 15), none⟩,
    ⟨.un .not (.p 15), (some 16), none⟩,
    ⟨.move .look (.p 16), (some 17), none⟩,
    ⟨.move .look (.p 5), (some 18), (some (17, false))⟩,
    ⟨.bin .lss 1 true (.p 18) (.c (.int .i64 0)), (some 19), (some (17, false))⟩,
    ⟨.pick (.p 17) (.c (.bool true)) (.p 19), (some 20), none⟩]
@[simp] def eq78_10 := id q78_10.eq_1
def q78_11 : List AOper :=
  [⟨.move .look (.t 0), (some 11), none⟩,
    ⟨.call 11 [(.t 11, false)], (some 12), none⟩,
    ⟨.move .look (.t 12), (some 10), none⟩,
    ⟨.extract 10 0, (some 13), none⟩,
    ⟨.extract 10 1, (some 14), none⟩,
    ⟨.assign (.p 13), (some 5), none⟩,
    ⟨.assign (.p 14), (some 6), none⟩]
@[simp] def eq78_11 := id q78_11.eq_1
def q78_12 : List AOper :=
  [⟨.assign (.c (.slice .nil 0 1 [])), (some 2), none⟩,
    ⟨.assign (.c (.slice .nil 0 1 [])), (some 3), none⟩,
    ⟨.assign (.c (.bool false)), (some 4), none⟩]
@[simp] def eq78_12 := id q78_12.eq_1
def k78_0 : ACode :=
  .ops q78_0 .ret
@[simp] theorem xk78_0 : GoC fns Q s k78_0 st ↔ GoO fns Q s q78_0 .ret st := goC_ops
def k78_1 : ACode :=
  .ops q78_1 .skip
@[simp] theorem xk78_1 : GoC fns Q s k78_1 st ↔ GoO fns Q s q78_1 .skip st := goC_ops
def k78_2 : ACode :=
  .ops q78_2 k78_1
@[simp] theorem xk78_2 : GoC fns Q s k78_2 st ↔ GoO fns Q s q78_2 k78_1 st := goC_ops
def k78_3 : ACode :=
  .ops q78_3 .ret
@[simp] theorem xk78_3 : GoC fns Q s k78_3 st ↔ GoO fns Q s q78_3 .ret st := goC_ops
def k78_4 : ACode :=
  .cond (.p 34) k78_3 .skip
@[simp] theorem xk78_4 : GoC fns Q s k78_4 st ↔ GB fns Q s (peek st (.p 34)) k78_3 .skip st := goC_cond
def k78_5 : ACode :=
  .seq k78_4 k78_2
@[simp] theorem xk78_5 : GoC fns Q s k78_5 st ↔ GoC fns Q (.sq k78_2 :: s) k78_4 st := goC_seq
def k78_6 : ACode :=
  .ops q78_4 k78_5
@[simp] theorem xk78_6 : GoC fns Q s k78_6 st ↔ GoO fns Q s q78_4 k78_5 st := goC_ops
def k78_7 : ACode :=
  .ops q78_5 k78_6
@[simp] theorem xk78_7 : GoC fns Q s k78_7 st ↔ GoO fns Q s q78_5 k78_6 st := goC_ops
def k78_8 : ACode :=
  .block 1 k78_7
@[simp] theorem xk78_8 : GoC fns Q s k78_8 st ↔ GoC fns Q (.bl 1 :: s) k78_7 st := goC_block
def k78_9 : ACode :=
  .cond (.p 27) .skip (.exit 0)
@[simp] theorem xk78_9 : GoC fns Q s k78_9 st ↔ GB fns Q s (peek st (.p 27)) .skip (.exit 0) st := goC_cond
def k78_10 : ACode :=
  .seq k78_9 k78_8
@[simp] theorem xk78_10 : GoC fns Q s k78_10 st ↔ GoC fns Q (.sq k78_8 :: s) k78_9 st := goC_seq
def k78_11 : ACode :=
  .ops q78_6 k78_10
@[simp] theorem xk78_11 : GoC fns Q s k78_11 st ↔ GoO fns Q s q78_6 k78_10 st := goC_ops
def lc78_0 : ACode :=
  k78_11
@[simp] theorem xlc78_0 : GoC fns Q s lc78_0 st ↔ GoC fns Q s k78_11 st := Iff.rfl
def k78_13 : ACode :=
  .loop lc78_0
@[simp] theorem xk78_13 : GoC fns Q s k78_13 st ↔ (LoopR fns lc78_0 st fun r => GoE fns Q s r.1 r.2) := goC_loop
def k78_14 : ACode :=
  .block 0 k78_13
@[simp] theorem xk78_14 : GoC fns Q s k78_14 st ↔ GoC fns Q (.bl 0 :: s) k78_13 st := goC_block
def k78_15 : ACode :=
  .seq k78_14 k78_0
@[simp] theorem xk78_15 : GoC fns Q s k78_15 st ↔ GoC fns Q (.sq k78_0 :: s) k78_14 st := goC_seq
def k78_16 : ACode :=
  .ops q78_7 k78_15
@[simp] theorem xk78_16 : GoC fns Q s k78_16 st ↔ GoO fns Q s q78_7 k78_15 st := goC_ops
def k78_17 : ACode :=
  .ops q78_8 k78_16
@[simp] theorem xk78_17 : GoC fns Q s k78_17 st ↔ GoO fns Q s q78_8 k78_16 st := goC_ops
def k78_18 : ACode :=
  .ops q78_9 .ret
@[simp] theorem xk78_18 : GoC fns Q s k78_18 st ↔ GoO fns Q s q78_9 .ret st := goC_ops
def k78_19 : ACode :=
  .cond (.p 20) k78_18 .skip
@[simp] theorem xk78_19 : GoC fns Q s k78_19 st ↔ GB fns Q s (peek st (.p 20)) k78_18 .skip st := goC_cond
def k78_20 : ACode :=
  .seq k78_19 k78_17
@[simp] theorem xk78_20 : GoC fns Q s k78_20 st ↔ GoC fns Q (.sq k78_17 :: s) k78_19 st := goC_seq
def k78_21 : ACode :=
  .ops q78_10 k78_20
@[simp] theorem xk78_21 : GoC fns Q s k78_21 st ↔ GoO fns Q s q78_10 k78_20 st := goC_ops
def k78_22 : ACode :=
  .ops q78_11 k78_21
@[simp] theorem xk78_22 : GoC fns Q s k78_22 st ↔ GoO fns Q s q78_11 k78_21 st := goC_ops
def k78_23 : ACode :=
  .ops q78_12 k78_22
@[simp] theorem xk78_23 : GoC fns Q s k78_23 st ↔ GoO fns Q s q78_12 k78_22 st := goC_ops
def af78 : AFunc := ⟨52, k78_23, [.tmp 2, .tmp 3, .tmp 4], fun _ => none⟩

theorem ok78 : ∃ hs, pFunc Tryz.prog sg hs Tryz.f78 = some af78 := ⟨fun i => 0, by kernel_rfl⟩
def q79_0 : List AOper :=
  [⟨.move .take (.p 4), (some 15), none⟩,
    ⟨.assign (.p 15), (some 2), none⟩]
@[simp] def eq79_0 := id q79_0.eq_1
def q79_1 : List AOper :=
  [⟨.fieldAddr 1 (.p 1), (some 6), none⟩,
    ⟨.fieldAddr 0 (.p 6), (some 7), none⟩,
    ⟨.load .look false 1 (.p 7), (some 8), none⟩,
    ⟨.fieldAddr 1 (.p 1), (some 9), none⟩,
    ⟨.fieldAddr 1 (.p 9), (some 10), none⟩,
    ⟨.load .look false 1 (.p 10), (some 11), none⟩,
    ⟨.call 16 [(.p 8, false), (.t 11, false)], (some 12), none⟩,
    ⟨.move .look (.t 12), (some 5), none⟩,
    ⟨.extract 5 0, (some 13), none⟩,
    ⟨.extract 5 1, (some 14), none⟩,
    ⟨.assign (.p 13), (some 3), none⟩,
    ⟨.assign (.p 14), (some 4), none⟩]
@[simp] def eq79_1 := id q79_1.eq_1
def q79_2 : List AOper :=
  [⟨.box 1 (.p 0), (some 1), none⟩,
    ⟨.assign (.c (.bool false)), (some 2), none⟩]
@[simp] def eq79_2 := id q79_2.eq_1
def k79_0 : ACode :=
  .ops q79_0 .ret
@[simp] theorem xk79_0 : GoC fns Q s k79_0 st ↔ GoO fns Q s q79_0 .ret st := goC_ops
def k79_1 : ACode :=
  .ops q79_1 k79_0
@[simp] theorem xk79_1 : GoC fns Q s k79_1 st ↔ GoO fns Q s q79_1 k79_0 st := goC_ops
def k79_2 : ACode :=
  .ops q79_2 k79_1
@[simp] theorem xk79_2 : GoC fns Q s k79_2 st ↔ GoO fns Q s q79_2 k79_1 st := goC_ops
def af79 : AFunc := ⟨16, k79_2, [.tmp 2], fun _ => none⟩

theorem ok79 : ∃ hs, pFunc Tryz.prog sg hs Tryz.f79 = some af79 := ⟨fun i => 0, by kernel_rfl⟩
def q28_0 : List AOper :=
  [⟨.move .take (.t 4), (some 29), none⟩,
    ⟨.move .take (.p 6), (some 30), none⟩,
    ⟨.assign (.t 29), (some 2), none⟩,
    ⟨.assign (.p 30), (some 3), none⟩]
@[simp] def eq28_0 := id q28_0.eq_1
def q28_1 : List AOper :=
  [⟨.move .look (.p 7), (some 18), none⟩,
    ⟨.bin .add 1 true (.p 18) (.c (.int .i64 1)), (some 19), none⟩,
    ⟨.assign (.p 19), (some 7), none⟩]
@[simp] def eq28_1 := id q28_1.eq_1
def q28_2 : List AOper :=
  [⟨.move .look (.t 4), (some 26), none⟩,
    ⟨.move .head (.p 7), (some 27), none⟩,
    ⟨.sliceSl 4 (.t 26) none (some (.p 27)), (some 28), none⟩,
    ⟨.assign (.t 28), (some 2), none⟩,
    ⟨.assign (.c (.bool false)), (some 3), none⟩]
@[simp] def eq28_2 := id q28_2.eq_1
def q28_3 : List AOper :=
  [⟨.move .look (.t 4), (some 20), none⟩,
    ⟨.move .look (.p 7), (some 21), none⟩,
    ⟨.indexAddr 4 (.t 20) (.p 21), (some 22), none⟩,
    ⟨.load .look true 4 (.p 22), (some 23), none⟩,
    ⟨.call 79 [(.p 23, false)], (some 24), none⟩,
    ⟨.un .not (.p 24), (some 25), none⟩]
@[simp] def eq28_3 := id q28_3.eq_1
def q28_4 : List AOper :=
  [⟨.move .look (.p 7), (some 14), none⟩,
    ⟨.move .head (.t 4), (some 15), none⟩,
    ⟨.len false (.p 15), (some 16), none⟩,
    ⟨.bin .lss 1 false (.p 14) (.p 16), (some 17), none⟩]
@[simp] def eq28_4 := id q28_4.eq_1
def q28_5 : List AOper :=
  [⟨.move .look (.t 0), (some 9), none⟩,
    ⟨.call 78 [(.t 9, false)], (some 10), none⟩,
    ⟨.move .look (.t 10), (some 8), none⟩,
    ⟨.extract 8 0, (some 11), none⟩,
    ⟨.extract 8 1, (some 12), none⟩,
    ⟨.extract 8 2, (some 13), none⟩,
    ⟨.assign (.t 11), (some 4), none⟩,
    ⟨.assign (.t 12), (some 5), none⟩,
    ⟨.assign (.p 13), (some 6), none⟩]
@[simp] def eq28_5 := id q28_5.eq_1
def q28_6 : List AOper :=
  [⟨.assign (.c (.slice .nil 0 1 [])), (some 2), none⟩,
    ⟨.assign (.c (.bool false)), (some 3), none⟩]
@[simp] def eq28_6 := id q28_6.eq_1
def k28_0 : ACode :=
  .ops q28_0 .ret
@[simp] theorem xk28_0 : GoC fns Q s k28_0 st ↔ GoO fns Q s q28_0 .ret st := goC_ops
def k28_1 : ACode :=
  .ops q28_1 .skip
@[simp] theorem xk28_1 : GoC fns Q s k28_1 st ↔ GoO fns Q s q28_1 .skip st := goC_ops
def k28_2 : ACode :=
  .ops q28_2 .ret
@[simp] theorem xk28_2 : GoC fns Q s k28_2 st ↔ GoO fns Q s q28_2 .ret st := goC_ops
def k28_3 : ACode :=
  .cond (.p 25) k28_2 .skip
@[simp] theorem xk28_3 : GoC fns Q s k28_3 st ↔ GB fns Q s (peek st (.p 25)) k28_2 .skip st := goC_cond
def k28_4 : ACode :=
  .ops q28_3 k28_3
@[simp] theorem xk28_4 : GoC fns Q s k28_4 st ↔ GoO fns Q s q28_3 k28_3 st := goC_ops
def k28_5 : ACode :=
  .block 1 k28_4
@[simp] theorem xk28_5 : GoC fns Q s k28_5 st ↔ GoC fns Q (.bl 1 :: s) k28_4 st := goC_block
def k28_6 : ACode :=
  .seq k28_5 k28_1
@[simp] theorem xk28_6 : GoC fns Q s k28_6 st ↔ GoC fns Q (.sq k28_1 :: s) k28_5 st := goC_seq
def k28_7 : ACode :=
  .cond (.p 17) .skip (.exit 0)
@[simp] theorem xk28_7 : GoC fns Q s k28_7 st ↔ GB fns Q s (peek st (.p 17)) .skip (.exit 0) st := goC_cond
def k28_8 : ACode :=
  .seq k28_7 k28_6
@[simp] theorem xk28_8 : GoC fns Q s k28_8 st ↔ GoC fns Q (.sq k28_6 :: s) k28_7 st := goC_seq
def k28_9 : ACode :=
  .ops q28_4 k28_8
@[simp] theorem xk28_9 : GoC fns Q s k28_9 st ↔ GoO fns Q s q28_4 k28_8 st := goC_ops
def lc28_0 : ACode :=
  k28_9
@[simp] theorem xlc28_0 : GoC fns Q s lc28_0 st ↔ GoC fns Q s k28_9 st := Iff.rfl
def k28_11 : ACode :=
  .loop lc28_0
@[simp] theorem xk28_11 : GoC fns Q s k28_11 st ↔ (LoopR fns lc28_0 st fun r => GoE fns Q s r.1 r.2) := goC_loop
def k28_12 : ACode :=
  .block 0 k28_11
@[simp] theorem xk28_12 : GoC fns Q s k28_12 st ↔ GoC fns Q (.bl 0 :: s) k28_11 st := goC_block
def k28_13 : ACode :=
  .seq k28_12 k28_0
@[simp] theorem xk28_13 : GoC fns Q s k28_13 st ↔ GoC fns Q (.sq k28_0 :: s) k28_12 st := goC_seq
def k28_14 : ACode :=
  .ops [⟨.assign (.c (.int .i64 0)), (some 7), none⟩] k28_13
@[simp] theorem xk28_14 : GoC fns Q s k28_14 st ↔ GoO fns Q s [⟨.assign (.c (.int .i64 0)), (some 7), none⟩] k28_13 st := goC_ops
def k28_15 : ACode :=
  .ops q28_5 k28_14
@[simp] theorem xk28_15 : GoC fns Q s k28_15 st ↔ GoO fns Q s q28_5 k28_14 st := goC_ops
def k28_16 : ACode :=
  .ops q28_6 k28_15
@[simp] theorem xk28_16 : GoC fns Q s k28_16 st ↔ GoO fns Q s q28_6 k28_15 st := goC_ops
def af28 : AFunc := ⟨31, k28_16, [.tmp 2, .tmp 3], fun _ => none⟩

theorem ok28 : ∃ hs, pFunc Tryz.prog sg hs Tryz.f28 = some af28 := ⟨fun i => 0, by kernel_rfl⟩
def q80_0 : List AOper :=
  [⟨.move .take (.t 8), (some 54), none⟩,
    ⟨.assign (.t 54), (some 2), none⟩,
    ⟨.assign (.c (.nilI)), (some 3), none⟩]
@[simp] def eq80_0 := id q80_0.eq_1
def q80_1 : List AOper :=
  [⟨.move .take (.t 8), (some 50), none⟩,
    ⟨.move .look (.t 7), (some 51), none⟩,
    ⟨.buildSl 108 1 [.slice .nil 0 1 []] [(0, 1, .t 51)], (some 52), none⟩,
    ⟨.append 108 1 24 false (.t 50) (.p 52), (some 53), none⟩,
    ⟨.assign (.t 53), (some 8), none⟩]
@[simp] def eq80_1 := id q80_1.eq_1
def q80_2 : List AOper :=
  [⟨.move .take (.t 8), (some 48), none⟩,
    ⟨.move .take (.p 9), (some 49), none⟩,
    ⟨.assign (.t 48), (some 2), none⟩,
    ⟨.assign (.p 49), (some 3), none⟩]
@[simp] def eq80_2 := id q80_2.eq_1
def q80_3 : List AOper :=
  [⟨.move .head (.p 9), (some 46), none⟩,
    ⟨.bin .neq 5 true (.p 46) (.c (.nilI)), (some 47), none⟩]
@[simp] def eq80_3 := id q80_3.eq_1
def q80_4 : List AOper :=
  [⟨.move .look (.t 7), (some 44), none⟩,
    ⟨.call 172 [(.t 44, false)], (some 45), none⟩,
    ⟨.assign (.p 45), (some 9), none⟩]
@[simp] def eq80_4 := id q80_4.eq_1
def q80_5 : List AOper :=
  [⟨.move .take (.t 8), (some 39), none⟩,
    ⟨.move .look (.t 0), (some 40), none⟩,
    ⟨.move .look (.t 5), (some 41), none⟩,
    ⟨.call 166 [(.t 40, false), (.t 41, false)], (some 42), none⟩,
    ⟨.mkIface 239 (.p 42), (some 43), none⟩,
    ⟨.assign (.t 39), (some 2), none⟩,
    ⟨.assign (.p 43), (some 3), none⟩]
@[simp] def eq80_5 := id q80_5.eq_1
def q80_6 : List AOper :=
  [⟨.move .look (.p 6), (some 37), none⟩,
    ⟨.un .not (.p 37), (some 38), none⟩]
@[simp] def eq80_6 := id q80_6.eq_1
def q80_7 : List AOper :=
  [⟨.move .look (.p 4), (some 32), none⟩,
    ⟨.move .head (.t 7), (some 33), none⟩,
    ⟨.len false (.p 33), (some 34), none⟩,
    ⟨.convInt .i32 (.p 34), (some 35), none⟩,
    ⟨.bin .sub 1 false (.p 32) (.p 35), (some 36), none⟩,
    ⟨.assign (.p 36), (some 4), none⟩]
@[simp] def eq80_7 := id q80_7.eq_1
def q80_8 : List AOper :=
  [⟨.move .look (.t 5), (some 27), none⟩,
    ⟨.call 64 [(.t 27, false)], (some 28), none⟩,
    ⟨.move .look (.t 28), (some 26), none⟩,
    ⟨.extract 26 0, (some 29), none⟩,
    ⟨.extract 26 1, (some 30), none⟩,
    ⟨.extract 26 2, (some 31), none⟩,
    ⟨.assign (.t 29), (some 7), none⟩,
    ⟨.assign (.t 30), (some 5), none⟩,
    ⟨.assign (.p 31), (some 6), none⟩]
@[simp] def eq80_8 := id q80_8.eq_1
def q80_9 : List AOper :=
  [⟨.move .look (.p 4), (some 24), none⟩,
    ⟨.bin .gtr 1 true (.p 24) (.c (.int .i32 1)), (some 25), none⟩]
@[simp] def eq80_9 := id q80_9.eq_1
def q80_10 : List AOper :=
  [⟨.move .look (.p 4), (some 22), none⟩,
    ⟨.bin .sub 1 true (.p 22) (.c (.int .i32 4)), (some 23), none⟩,
    ⟨.assign (.p 23), (some 4), none⟩]
@[simp] def eq80_10 := id q80_10.eq_1
def q80_11 : List AOper :=
  [⟨.move .look (.t 0), (some 18), none⟩,
    ⟨.move .look (.t 5), (some 19), none⟩,
    ⟨.call 166 [(.t 18, false), (.t 19, false)], (some 20), none⟩,
    ⟨.mkIface 239 (.p 20), (some 21), none⟩,
    ⟨.assign (.c (.slice .nil 0 1 [])), (some 2), none⟩,
    ⟨.assign (.p 21), (some 3), none⟩]
@[simp] def eq80_11 := id q80_11.eq_1
def q80_12 : List AOper :=
  [⟨.move .look (.p 6), (some 16), none⟩,
    ⟨.un .not (.p 16), (some 17), none⟩]
@[simp] def eq80_12 := id q80_12.eq_1
def q80_13 : List AOper :=
  [⟨.move .look (.t 0), (some 11), none⟩,
    ⟨.call 54 [(.t 11, false)], (some 12), none⟩,
    ⟨.move .look (.t 12), (some 10), none⟩,
    ⟨.extract 10 0, (some 13), none⟩,
    ⟨.extract 10 1, (some 14), none⟩,
    ⟨.extract 10 2, (some 15), none⟩,
    ⟨.assign (.p 13), (some 4), none⟩,
    ⟨.assign (.t 14), (some 5), none⟩,
    ⟨.assign (.p 15), (some 6), none⟩]
@[simp] def eq80_13 := id q80_13.eq_1
def q80_14 : List AOper :=
  [⟨.assign (.c (.slice .nil 0 1 [])), (some 2), none⟩,
    ⟨.assign (.c (.nilI)), (some 3), none⟩]
@[simp] def eq80_14 := id q80_14.eq_1
def k80_0 : ACode :=
  .ops q80_0 .ret
@[simp] theorem xk80_0 : GoC fns Q s k80_0 st ↔ GoO fns Q s q80_0 .ret st := goC_ops
def k80_1 : ACode :=
  .ops q80_1 .skip
@[simp] theorem xk80_1 : GoC fns Q s k80_1 st ↔ GoO fns Q s q80_1 .skip st := goC_ops
def k80_2 : ACode :=
  .ops q80_2 .ret
@[simp] theorem xk80_2 : GoC fns Q s k80_2 st ↔ GoO fns Q s q80_2 .ret st := goC_ops
def k80_3 : ACode :=
  .cond (.p 47) k80_2 .skip
@[simp] theorem xk80_3 : GoC fns Q s k80_3 st ↔ GB fns Q s (peek st (.p 47)) k80_2 .skip st := goC_cond
def k80_4 : ACode :=
  .seq k80_3 k80_1
@[simp] theorem xk80_4 : GoC fns Q s k80_4 st ↔ GoC fns Q (.sq k80_1 :: s) k80_3 st := goC_seq
def k80_5 : ACode :=
  .ops q80_3 k80_4
@[simp] theorem xk80_5 : GoC fns Q s k80_5 st ↔ GoO fns Q s q80_3 k80_4 st := goC_ops
def k80_6 : ACode :=
  .ops q80_4 k80_5
@[simp] theorem xk80_6 : GoC fns Q s k80_6 st ↔ GoO fns Q s q80_4 k80_5 st := goC_ops
def k80_7 : ACode :=
  .ops q80_5 .ret
@[simp] theorem xk80_7 : GoC fns Q s k80_7 st ↔ GoO fns Q s q80_5 .ret st := goC_ops
def k80_8 : ACode :=
  .cond (.p 38) k80_7 .skip
@[simp] theorem xk80_8 : GoC fns Q s k80_8 st ↔ GB fns Q s (peek st (.p 38)) k80_7 .skip st := goC_cond
def k80_9 : ACode :=
  .seq k80_8 k80_6
@[simp] theorem xk80_9 : GoC fns Q s k80_9 st ↔ GoC fns Q (.sq k80_6 :: s) k80_8 st := goC_seq
def k80_10 : ACode :=
  .ops q80_6 k80_9
@[simp] theorem xk80_10 : GoC fns Q s k80_10 st ↔ GoO fns Q s q80_6 k80_9 st := goC_ops
def k80_11 : ACode :=
  .ops q80_7 k80_10
@[simp] theorem xk80_11 : GoC fns Q s k80_11 st ↔ GoO fns Q s q80_7 k80_10 st := goC_ops
def k80_12 : ACode :=
  .ops q80_8 k80_11
@[simp] theorem xk80_12 : GoC fns Q s k80_12 st ↔ GoO fns Q s q80_8 k80_11 st := goC_ops
def k80_13 : ACode :=
  .block 1 k80_12
@[simp] theorem xk80_13 : GoC fns Q s k80_13 st ↔ GoC fns Q (.bl 1 :: s) k80_12 st := goC_block
def k80_14 : ACode :=
  .cond (.p 25) .skip (.exit 0)
@[simp] theorem xk80_14 : GoC fns Q s k80_14 st ↔ GB fns Q s (peek st (.p 25)) .skip (.exit 0) st := goC_cond
def k80_15 : ACode :=
  .seq k80_14 k80_13
@[simp] theorem xk80_15 : GoC fns Q s k80_15 st ↔ GoC fns Q (.sq k80_13 :: s) k80_14 st := goC_seq
def k80_16 : ACode :=
  .ops q80_9 k80_15
@[simp] theorem xk80_16 : GoC fns Q s k80_16 st ↔ GoO fns Q s q80_9 k80_15 st := goC_ops
def lc80_0 : ACode :=
  k80_16
@[simp] theorem xlc80_0 : GoC fns Q s lc80_0 st ↔ GoC fns Q s k80_16 st := Iff.rfl
def k80_18 : ACode :=
  .loop lc80_0
@[simp] theorem xk80_18 : GoC fns Q s k80_18 st ↔ (LoopR fns lc80_0 st fun r => GoE fns Q s r.1 r.2) := goC_loop
def k80_19 : ACode :=
  .block 0 k80_18
@[simp] theorem xk80_19 : GoC fns Q s k80_19 st ↔ GoC fns Q (.bl 0 :: s) k80_18 st := goC_block
def k80_20 : ACode :=
  .seq k80_19 k80_0
@[simp] theorem xk80_20 : GoC fns Q s k80_20 st ↔ GoC fns Q (.sq k80_0 :: s) k80_19 st := goC_seq
def k80_21 : ACode :=
  .ops [⟨.assign (.c (.slice .nil 0 1 [])), (some 8), none⟩] k80_20
@[simp] theorem xk80_21 : GoC fns Q s k80_21 st ↔ GoO fns Q s [⟨.assign (.c (.slice .nil 0 1 [])), (some 8), none⟩] k80_20 st := goC_ops
def k80_22 : ACode :=
  .ops [⟨.assign (.c (.slice .nil 0 1 [])), (some 7), none⟩] k80_21
@[simp] theorem xk80_22 : GoC fns Q s k80_22 st ↔ GoO fns Q s [⟨.assign (.c (.slice .nil 0 1 [])), (some 7), none⟩] k80_21 st := goC_ops
def k80_23 : ACode :=
  .ops q80_10 k80_22
@[simp] theorem xk80_23 : GoC fns Q s k80_23 st ↔ GoO fns Q s q80_10 k80_22 st := goC_ops
def k80_24 : ACode :=
  .ops q80_11 .ret
@[simp] theorem xk80_24 : GoC fns Q s k80_24 st ↔ GoO fns Q s q80_11 .ret st := goC_ops
def k80_25 : ACode :=
  .cond (.p 17) k80_24 .skip
@[simp] theorem xk80_25 : GoC fns Q s k80_25 st ↔ GB fns Q s (peek st (.p 17)) k80_24 .skip st := goC_cond
def k80_26 : ACode :=
  .seq k80_25 k80_23
@[simp] theorem xk80_26 : GoC fns Q s k80_26 st ↔ GoC fns Q (.sq k80_23 :: s) k80_25 st := goC_seq
def k80_27 : ACode :=
  .ops q80_12 k80_26
@[simp] theorem xk80_27 : GoC fns Q s k80_27 st ↔ GoO fns Q s q80_12 k80_26 st := goC_ops
def k80_28 : ACode :=
  .ops q80_13 k80_27
@[simp] theorem xk80_28 : GoC fns Q s k80_28 st ↔ GoO fns Q s q80_13 k80_27 st := goC_ops
def k80_29 : ACode :=
  .ops q80_14 k80_28
@[simp] theorem xk80_29 : GoC fns Q s k80_29 st ↔ GoO fns Q s q80_14 k80_28 st := goC_ops
def af80 : AFunc := ⟨55, k80_29, [.tmp 2, .tmp 3], fun _ => none⟩

theorem ok80 : ∃ hs, pFunc Tryz.prog sg hs Tryz.f80 = some af80 := ⟨fun i => 0, by kernel_rfl⟩
def q29_0 : List AOper :=
  [⟨.move .take (.t 6), (some 26), none⟩,
    ⟨.move .head (.p 5), (some 27), none⟩,
    ⟨.bin .eql 5 true (.p 27) (.c (.nilI)), (some 28), none⟩,
    ⟨.assign (.t 26), (some 2), none⟩,
    ⟨.assign (.p 28), (some 3), none⟩]
@[simp] def eq29_0 := id q29_0.eq_1
def q29_1 : List AOper :=
  [⟨.bin .add 1 true (.p 16) (.c (.int .i64 1)), (some 25), none⟩,
    ⟨.move .look (.p 25), (some 16), none⟩]
@[simp] def eq29_1 := id q29_1.eq_1
def q29_2 : List AOper :=
  [⟨.move .take (.t 6), (some 20), none⟩,
    ⟨.move .look (.t 8), (some 21), none⟩,
    ⟨.call 55 [(.t 21, false)], (some 22), none⟩,
    ⟨.buildSl 22 1 [.slice .nil 0 1 []] [(0, 1, .t 22)], (some 23), none⟩,
    ⟨.append 22 1 24 false (.t 20) (.p 23), (some 24), none⟩,
    ⟨.assign (.t 24), (some 6), none⟩]
@[simp] def eq29_2 := id q29_2.eq_1
def q29_3 : List AOper :=
  [⟨.indexAddr 1 (.t 14) (.p 16), (some 18), none⟩,
    ⟨.load .take false 1 (.p 18), (some 19), none⟩,
    ⟨.assign (.t 19), (some 8), none⟩]
@[simp] def eq29_3 := id q29_3.eq_1
def q29_4 : List AOper :=
  [⟨.move .look (.t 4), (some 14), none⟩,
    ⟨.len false (.p 14), (some 15), none⟩,
    ⟨.move .head (.c (.int .i64 0)), (some 16), none⟩]
@[simp] def eq29_4 := id q29_4.eq_1
def q29_5 : List AOper :=
  [⟨.move .look (.t 0), (some 10), none⟩,
    ⟨.call 80 [(.t 10, false)], (some 11), none⟩,
    ⟨.move .look (.t 11), (some 9), none⟩,
    ⟨.extract 9 0, (some 12), none⟩,
    ⟨.extract 9 1, (some 13), none⟩,
    ⟨.assign (.t 12), (some 4), none⟩,
    ⟨.assign (.p 13), (some 5), none⟩]
@[simp] def eq29_5 := id q29_5.eq_1
def q29_6 : List AOper :=
  [⟨.assign (.c (.slice .nil 0 1 [])), (some 2), none⟩,
    ⟨.assign (.c (.bool false)), (some 3), none⟩]
@[simp] def eq29_6 := id q29_6.eq_1
def k29_0 : ACode :=
  .ops q29_0 .ret
@[simp] theorem xk29_0 : GoC fns Q s k29_0 st ↔ GoO fns Q s q29_0 .ret st := goC_ops
def k29_1 : ACode :=
  .ops q29_1 .skip
@[simp] theorem xk29_1 : GoC fns Q s k29_1 st ↔ GoO fns Q s q29_1 .skip st := goC_ops
def k29_2 : ACode :=
  .ops q29_2 .skip
@[simp] theorem xk29_2 : GoC fns Q s k29_2 st ↔ GoO fns Q s q29_2 .skip st := goC_ops
def k29_3 : ACode :=
  .ops q29_3 k29_2
@[simp] theorem xk29_3 : GoC fns Q s k29_3 st ↔ GoO fns Q s q29_3 k29_2 st := goC_ops
def k29_4 : ACode :=
  .block 1 k29_3
@[simp] theorem xk29_4 : GoC fns Q s k29_4 st ↔ GoC fns Q (.bl 1 :: s) k29_3 st := goC_block
def k29_5 : ACode :=
  .seq k29_4 k29_1
@[simp] theorem xk29_5 : GoC fns Q s k29_5 st ↔ GoC fns Q (.sq k29_1 :: s) k29_4 st := goC_seq
def k29_6 : ACode :=
  .cond (.p 17) .skip (.exit 0)
@[simp] theorem xk29_6 : GoC fns Q s k29_6 st ↔ GB fns Q s (peek st (.p 17)) .skip (.exit 0) st := goC_cond
def k29_7 : ACode :=
  .seq k29_6 k29_5
@[simp] theorem xk29_7 : GoC fns Q s k29_7 st ↔ GoC fns Q (.sq k29_5 :: s) k29_6 st := goC_seq
def k29_8 : ACode :=
  .ops [⟨.bin .lss 1 false (.p 16) (.p 15), (some 17), none⟩] k29_7
@[simp] theorem xk29_8 : GoC fns Q s k29_8 st ↔ GoO fns Q s [⟨.bin .lss 1 false (.p 16) (.p 15), (some 17), none⟩] k29_7 st := goC_ops
def lc29_0 : ACode :=
  k29_8
@[simp] theorem xlc29_0 : GoC fns Q s lc29_0 st ↔ GoC fns Q s k29_8 st := Iff.rfl
def k29_10 : ACode :=
  .loop lc29_0
@[simp] theorem xk29_10 : GoC fns Q s k29_10 st ↔ (LoopR fns lc29_0 st fun r => GoE fns Q s r.1 r.2) := goC_loop
def k29_11 : ACode :=
  .block 0 k29_10
@[simp] theorem xk29_11 : GoC fns Q s k29_11 st ↔ GoC fns Q (.bl 0 :: s) k29_10 st := goC_block
def k29_12 : ACode :=
  .seq k29_11 k29_0
@[simp] theorem xk29_12 : GoC fns Q s k29_12 st ↔ GoC fns Q (.sq k29_0 :: s) k29_11 st := goC_seq
def k29_13 : ACode :=
  .ops q29_4 k29_12
@[simp] theorem xk29_13 : GoC fns Q s k29_13 st ↔ GoO fns Q s q29_4 k29_12 st := goC_ops
def k29_14 : ACode :=
  .ops [⟨.assign (.c (.slice .nil 0 1 [])), (some 6), none⟩] k29_13
@[simp] theorem xk29_14 : GoC fns Q s k29_14 st ↔ GoO fns Q s [⟨.assign (.c (.slice .nil 0 1 [])), (some 6), none⟩] k29_13 st := goC_ops
def k29_15 : ACode :=
  .ops q29_5 k29_14
@[simp] theorem xk29_15 : GoC fns Q s k29_15 st ↔ GoO fns Q s q29_5 k29_14 st := goC_ops
def k29_16 : ACode :=
  .ops q29_6 k29_15
@[simp] theorem xk29_16 : GoC fns Q s k29_16 st ↔ GoO fns Q s q29_6 k29_15 st := goC_ops
def af29 : AFunc := ⟨29, k29_16, [.tmp 2, .tmp 3], fun _ => none⟩

theorem ok29 : ∃ hs, pFunc Tryz.prog sg hs Tryz.f29 = some af29 := ⟨fun i => if i == 14 then 5 else 0, by kernel_rfl⟩
def q168_0 : List AOper :=
  [⟨.move .take (.t 8), (some 56), none⟩,
    ⟨.assign (.t 56), (some 2), none⟩,
    ⟨.assign (.c (.nilI)), (some 3), none⟩]
@[simp] def eq168_0 := id q168_0.eq_1
def q168_1 : List AOper :=
  [⟨.move .take (.t 8), (some 51), none⟩,
    ⟨.move .look (.t 7), (some 52), none⟩,
    ⟨.call 170 [(.t 52, false)], (some 53), none⟩,
    ⟨.buildSl 102 2 [.int .u8 0, .slice .nil 0 1 []] [(0, 2, .p 53)], (some 54), none⟩,
    ⟨.append 102 2 32 false (.t 51) (.p 54), (some 55), none⟩,
    ⟨.assign (.t 55), (some 8), none⟩]
@[simp] def eq168_1 := id q168_1.eq_1
def q168_2 : List AOper :=
  [⟨.move .take (.t 8), (some 49), none⟩,
    ⟨.move .take (.p 9), (some 50), none⟩,
    ⟨.assign (.t 49), (some 2), none⟩,
    ⟨.assign (.p 50), (some 3), none⟩]
@[simp] def eq168_2 := id q168_2.eq_1
def q168_3 : List AOper :=
  [⟨.move .head (.p 9), (some 47), none⟩,
    ⟨.bin .neq 5 true (.p 47) (.c (.nilI)), (some 48), none⟩]
@[simp] def eq168_3 := id q168_3.eq_1
def q168_4 : List AOper :=
  [⟨.move .look (.t 7), (some 44), none⟩,
    ⟨.call 170 [(.t 44, false)], (some 45), none⟩,
    ⟨.call 67 [(.p 45, false)], (some 46), none⟩,
    ⟨.assign (.p 46), (some 9), none⟩]
@[simp] def eq168_4 := id q168_4.eq_1
def q168_5 : List AOper :=
  [⟨.move .take (.t 8), (some 39), none⟩,
    ⟨.move .look (.t 0), (some 40), none⟩,
    ⟨.move .look (.t 5), (some 41), none⟩,
    ⟨.call 166 [(.t 40, false), (.t 41, false)], (some 42), none⟩,
    ⟨.mkIface 239 (.p 42), (some 43), none⟩,
    ⟨.assign (.t 39), (some 2), none⟩,
    ⟨.assign (.p 43), (some 3), none⟩]
@[simp] def eq168_5 := id q168_5.eq_1
def q168_6 : List AOper :=
  [⟨.move .look (.p 6), (some 37), none⟩,
    ⟨.un .not (.p 37), (some 38), none⟩]
@[simp] def eq168_6 := id q168_6.eq_1
def q168_7 : List AOper :=
  [⟨.move .look (.p 4), (some 32), none⟩,
    ⟨.move .head (.t 7), (some 33), none⟩,
    ⟨.len false (.p 33), (some 34), none⟩,
    ⟨.convInt .i32 (.p 34), (some 35), none⟩,
    ⟨.bin .sub 1 false (.p 32) (.p 35), (some 36), none⟩,
    ⟨.assign (.p 36), (some 4), none⟩]
@[simp] def eq168_7 := id q168_7.eq_1
def q168_8 : List AOper :=
  [⟨.move .look (.t 5), (some 27), none⟩,
    ⟨.call 64 [(.t 27, false)], (some 28), none⟩,
    ⟨.move .look (.t 28), (some 26), none⟩,
    ⟨.extract 26 0, (some 29), none⟩,
    ⟨.extract 26 1, (some 30), none⟩,
    ⟨.extract 26 2, (some 31), none⟩,
    ⟨.assign (.t 29), (some 7), none⟩,
    ⟨.assign (.t 30), (some 5), none⟩,
    ⟨.assign (.p 31), (some 6), none⟩]
@[simp] def eq168_8 := id q168_8.eq_1
def q168_9 : List AOper :=
  [⟨.move .look (.p 4), (some 24), none⟩,
    ⟨.bin .gtr 1 true (.p 24) (.c (.int .i32 1)), (some 25), none⟩]
@[simp] def eq168_9 := id q168_9.eq_1
def q168_10 : List AOper :=
  [⟨.move .look (.p 4), (some 22), none⟩,
    ⟨.bin .sub 1 true (.p 22) (.c (.int .i32 4)), (some 23), none⟩,
    ⟨.assign (.p 23), (some 4), none⟩]
@[simp] def eq168_10 := id q168_10.eq_1
def q168_11 : List AOper :=
  [⟨.move .look (.t 0), (some 18), none⟩,
    ⟨.move .look (.t 5), (some 19), none⟩,
    ⟨.call 166 [(.t 18, false), (.t 19, false)], (some 20), none⟩,
    ⟨.mkIface 239 (.p 20), (some 21), none⟩,
    ⟨.assign (.c (.slice .nil 0 1 [])), (some 2), none⟩,
    ⟨.assign (.p 21), (some 3), none⟩]
@[simp] def eq168_11 := id q168_11.eq_1
def q168_12 : List AOper :=
  [⟨.move .look (.p 6), (some 16), none⟩,
    ⟨.un .not (.p 16), (some 17), none⟩]
@[simp] def eq168_12 := id q168_12.eq_1
def q168_13 : List AOper :=
  [⟨.move .look (.t 0), (some 11), none⟩,
    ⟨.call 54 [(.t 11, false)], (some 12), none⟩,
    ⟨.move .look (.t 12), (some 10), none⟩,
    ⟨.extract 10 0, (some 13), none⟩,
    ⟨.extract 10 1, (some 14), none⟩,
    ⟨.extract 10 2, (some 15), none⟩,
    ⟨.assign (.p 13), (some 4), none⟩,
    ⟨.assign (.t 14), (some 5), none⟩,
    ⟨.assign (.p 15), (some 6), none⟩]
@[simp] def eq168_13 := id q168_13.eq_1
def q168_14 : List AOper :=
  [⟨.assign (.c (.slice .nil 0 1 [])), (some 2), none⟩,
    ⟨.assign (.c (.nilI)), (some 3), none⟩]
@[simp] def eq168_14 := id q168_14.eq_1
def k168_0 : ACode :=
  .ops q168_0 .ret
@[simp] theorem xk168_0 : GoC fns Q s k168_0 st ↔ GoO fns Q s q168_0 .ret st := goC_ops
def k168_1 : ACode :=
  .ops q168_1 .skip
@[simp] theorem xk168_1 : GoC fns Q s k168_1 st ↔ GoO fns Q s q168_1 .skip st := goC_ops
def k168_2 : ACode :=
  .ops q168_2 .ret
@[simp] theorem xk168_2 : GoC fns Q s k168_2 st ↔ GoO fns Q s q168_2 .ret st := goC_ops
def k168_3 : ACode :=
  .cond (.p 48) k168_2 .skip
@[simp] theorem xk168_3 : GoC fns Q s k168_3 st ↔ GB fns Q s (peek st (.p 48)) k168_2 .skip st := goC_cond
def k168_4 : ACode :=
  .seq k168_3 k168_1
@[simp] theorem xk168_4 : GoC fns Q s k168_4 st ↔ GoC fns Q (.sq k168_1 :: s) k168_3 st := goC_seq
def k168_5 : ACode :=
  .ops q168_3 k168_4
@[simp] theorem xk168_5 : GoC fns Q s k168_5 st ↔ GoO fns Q s q168_3 k168_4 st := goC_ops
def k168_6 : ACode :=
  .ops q168_4 k168_5
@[simp] theorem xk168_6 : GoC fns Q s k168_6 st ↔ GoO fns Q s q168_4 k168_5 st := goC_ops
def k168_7 : ACode :=
  .ops q168_5 .ret
@[simp] theorem xk168_7 : GoC fns Q s k168_7 st ↔ GoO fns Q s q168_5 .ret st := goC_ops
def k168_8 : ACode :=
  .cond (.p 38) k168_7 .skip
@[simp] theorem xk168_8 : GoC fns Q s k168_8 st ↔ GB fns Q s (peek st (.p 38)) k168_7 .skip st := goC_cond
def k168_9 : ACode :=
  .seq k168_8 k168_6
@[simp] theorem xk168_9 : GoC fns Q s k168_9 st ↔ GoC fns Q (.sq k168_6 :: s) k168_8 st := goC_seq
def k168_10 : ACode :=
  .ops q168_6 k168_9
@[simp] theorem xk168_10 : GoC fns Q s k168_10 st ↔ GoO fns Q s q168_6 k168_9 st := goC_ops
def k168_11 : ACode :=
  .ops q168_7 k168_10
@[simp] theorem xk168_11 : GoC fns Q s k168_11 st ↔ GoO fns Q s q168_7 k168_10 st := goC_ops
def k168_12 : ACode :=
  .ops q168_8 k168_11
@[simp] theorem xk168_12 : GoC fns Q s k168_12 st ↔ GoO fns Q s q168_8 k168_11 st := goC_ops
def k168_13 : ACode :=
  .block 1 k168_12
@[simp] theorem xk168_13 : GoC fns Q s k168_13 st ↔ GoC fns Q (.bl 1 :: s) k168_12 st := goC_block
def k168_14 : ACode :=
  .cond (.p 25) .skip (.exit 0)
@[simp] theorem xk168_14 : GoC fns Q s k168_14 st ↔ GB fns Q s (peek st (.p 25)) .skip (.exit 0) st := goC_cond
def k168_15 : ACode :=
  .seq k168_14 k168_13
@[simp] theorem xk168_15 : GoC fns Q s k168_15 st ↔ GoC fns Q (.sq k168_13 :: s) k168_14 st := goC_seq
def k168_16 : ACode :=
  .ops q168_9 k168_15
@[simp] theorem xk168_16 : GoC fns Q s k168_16 st ↔ GoO fns Q s q168_9 k168_15 st := goC_ops
def lc168_0 : ACode :=
  k168_16
@[simp] theorem xlc168_0 : GoC fns Q s lc168_0 st ↔ GoC fns Q s k168_16 st := Iff.rfl
def k168_18 : ACode :=
  .loop lc168_0
@[simp] theorem xk168_18 : GoC fns Q s k168_18 st ↔ (LoopR fns lc168_0 st fun r => GoE fns Q s r.1 r.2) := goC_loop
def k168_19 : ACode :=
  .block 0 k168_18
@[simp] theorem xk168_19 : GoC fns Q s k168_19 st ↔ GoC fns Q (.bl 0 :: s) k168_18 st := goC_block
def k168_20 : ACode :=
  .seq k168_19 k168_0
@[simp] theorem xk168_20 : GoC fns Q s k168_20 st ↔ GoC fns Q (.sq k168_0 :: s) k168_19 st := goC_seq
def k168_21 : ACode :=
  .ops [⟨.assign (.c (.slice .nil 0 1 [])), (some 8), none⟩] k168_20
@[simp] theorem xk168_21 : GoC fns Q s k168_21 st ↔ GoO fns Q s [⟨.assign (.c (.slice .nil 0 1 [])), (some 8), none⟩] k168_20 st := goC_ops
def k168_22 : ACode :=
  .ops [⟨.assign (.c (.slice .nil 0 1 [])), (some 7), none⟩] k168_21
@[simp] theorem xk168_22 : GoC fns Q s k168_22 st ↔ GoO fns Q s [⟨.assign (.c (.slice .nil 0 1 [])), (some 7), none⟩] k168_21 st := goC_ops
def k168_23 : ACode :=
  .ops q168_10 k168_22
@[simp] theorem xk168_23 : GoC fns Q s k168_23 st ↔ GoO fns Q s q168_10 k168_22 st := goC_ops
def k168_24 : ACode :=
  .ops q168_11 .ret
@[simp] theorem xk168_24 : GoC fns Q s k168_24 st ↔ GoO fns Q s q168_11 .ret st := goC_ops
def k168_25 : ACode :=
  .cond (.p 17) k168_24 .skip
@[simp] theorem xk168_25 : GoC fns Q s k168_25 st ↔ GB fns Q s (peek st (.p 17)) k168_24 .skip st := goC_cond
def k168_26 : ACode :=
  .seq k168_25 k168_23
@[simp] theorem xk168_26 : GoC fns Q s k168_26 st ↔ GoC fns Q (.sq k168_23 :: s) k168_25 st := goC_seq
def k168_27 : ACode :=
  .ops q168_12 k168_26
@[simp] theorem xk168_27 : GoC fns Q s k168_27 st ↔ GoO fns Q s q168_12 k168_26 st := goC_ops
def k168_28 : ACode :=
  .ops q168_13 k168_27
@[simp] theorem xk168_28 : GoC fns Q s k168_28 st ↔ GoO fns Q s q168_13 k168_27 st := goC_ops
def k168_29 : ACode :=
  .ops q168_14 k168_28
@[simp] theorem xk168_29 : GoC fns Q s k168_29 st ↔ GoO fns Q s q168_14 k168_28 st := goC_ops
def af168 : AFunc := ⟨57, k168_29, [.tmp 2, .tmp 3], fun _ => none⟩

theorem ok168 : ∃ hs, pFunc Tryz.prog sg hs Tryz.f168 = some af168 := ⟨fun i => 0, by kernel_rfl⟩
def q81_0 : List AOper :=
  [⟨.move .look (.t 0), (some 4), none⟩,
    ⟨.call 168 [(.t 4, false)], (some 5), none⟩,
    ⟨.extract 5 0, (some 6), none⟩,
    ⟨.extract 5 1, (some 7), none⟩,
    ⟨.assign (.t 6), (some 2), none⟩,
    ⟨.assign (.p 7), (some 3), none⟩]
@[simp] def eq81_0 := id q81_0.eq_1
def q81_1 : List AOper :=
  [⟨.assign (.c (.slice .nil 0 1 [])), (some 2), none⟩,
    ⟨.assign (.c (.nilI)), (some 3), none⟩]
@[simp] def eq81_1 := id q81_1.eq_1
def k81_0 : ACode :=
  .ops q81_0 .ret
@[simp] theorem xk81_0 : GoC fns Q s k81_0 st ↔ GoO fns Q s q81_0 .ret st := goC_ops
def k81_1 : ACode :=
  .ops q81_1 k81_0
@[simp] theorem xk81_1 : GoC fns Q s k81_1 st ↔ GoO fns Q s q81_1 k81_0 st := goC_ops
def af81 : AFunc := ⟨8, k81_1, [.tmp 2, .tmp 3], fun _ => none⟩

theorem ok81 : ∃ hs, pFunc Tryz.prog sg hs Tryz.f81 = some af81 := ⟨fun i => 0, by kernel_rfl⟩
def q74_0 : List AOper :=
  [⟨.move .take (.t 3), (some 18), none⟩,
    ⟨.assign (.t 18), (some 2), none⟩]
@[simp] def eq74_0 := id q74_0.eq_1
def q74_1 : List AOper :=
  [⟨.bin .add 1 true (.p 8) (.c (.int .i64 1)), (some 17), none⟩,
    ⟨.move .look (.p 17), (some 8), none⟩]
@[simp] def eq74_1 := id q74_1.eq_1
def q74_2 : List AOper :=
  [⟨.move .take (.t 3), (some 12), none⟩,
    ⟨.load .look true 2 (.p 5), (some 13), none⟩,
    ⟨.call 62 [(.p 13, false)], (some 14), none⟩,
    ⟨.buildSl 32 2 [.int .i64 0, .slice .nil 0 1 []] [(0, 2, .p 14)], (some 15), none⟩,
    ⟨.append 32 2 32 false (.t 12) (.p 15), (some 16), none⟩,
    ⟨.assign (.t 16), (some 3), none⟩]
@[simp] def eq74_2 := id q74_2.eq_1
def q74_3 : List AOper :=
  [⟨.indexAddr 2 (.t 6) (.p 8), (some 10), none⟩,
    ⟨.load .take true 2 (.p 10), (some 11), none⟩,
    ⟨.newbox 5 [.int .u8 0, .slice .nil 0 1 []], (some 5), none⟩,
    ⟨.store 2 (.p 5) (.p 11), none, none⟩]
@[simp] def eq74_3 := id q74_3.eq_1
def q74_4 : List AOper :=
  [⟨.move .look (.t 0), (some 6), none⟩,
    ⟨.len false (.p 6), (some 7), none⟩,
    ⟨.move .head (.c (.int .i64 0)), (some 8), none⟩]
@[simp] def eq74_4 := id q74_4.eq_1
def k74_0 : ACode :=
  .ops q74_0 .ret
@[simp] theorem xk74_0 : GoC fns Q s k74_0 st ↔ GoO fns Q s q74_0 .ret st := goC_ops
def k74_1 : ACode :=
  .ops q74_1 .skip
@[simp] theorem xk74_1 : GoC fns Q s k74_1 st ↔ GoO fns Q s q74_1 .skip st := goC_ops
def k74_2 : ACode :=
  .ops q74_2 .skip
@[simp] theorem xk74_2 : GoC fns Q s k74_2 st ↔ GoO fns Q s q74_2 .skip st := goC_ops
def k74_3 : ACode :=
  .ops q74_3 k74_2
@[simp] theorem xk74_3 : GoC fns Q s k74_3 st ↔ GoO fns Q s q74_3 k74_2 st := goC_ops
def k74_4 : ACode :=
  .block 1 k74_3
@[simp] theorem xk74_4 : GoC fns Q s k74_4 st ↔ GoC fns Q (.bl 1 :: s) k74_3 st := goC_block
def k74_5 : ACode :=
  .seq k74_4 k74_1
@[simp] theorem xk74_5 : GoC fns Q s k74_5 st ↔ GoC fns Q (.sq k74_1 :: s) k74_4 st := goC_seq
def k74_6 : ACode :=
  .cond (.p 9) .skip (.exit 0)
@[simp] theorem xk74_6 : GoC fns Q s k74_6 st ↔ GB fns Q s (peek st (.p 9)) .skip (.exit 0) st := goC_cond
def k74_7 : ACode :=
  .seq k74_6 k74_5
@[simp] theorem xk74_7 : GoC fns Q s k74_7 st ↔ GoC fns Q (.sq k74_5 :: s) k74_6 st := goC_seq
def k74_8 : ACode :=
  .ops [⟨.bin .lss 1 false (.p 8) (.p 7), (some 9), none⟩] k74_7
@[simp] theorem xk74_8 : GoC fns Q s k74_8 st ↔ GoO fns Q s [⟨.bin .lss 1 false (.p 8) (.p 7), (some 9), none⟩] k74_7 st := goC_ops
def lc74_0 : ACode :=
  k74_8
@[simp] theorem xlc74_0 : GoC fns Q s lc74_0 st ↔ GoC fns Q s k74_8 st := Iff.rfl
def k74_10 : ACode :=
  .loop lc74_0
@[simp] theorem xk74_10 : GoC fns Q s k74_10 st ↔ (LoopR fns lc74_0 st fun r => GoE fns Q s r.1 r.2) := goC_loop
def k74_11 : ACode :=
  .block 0 k74_10
@[simp] theorem xk74_11 : GoC fns Q s k74_11 st ↔ GoC fns Q (.bl 0 :: s) k74_10 st := goC_block
def k74_12 : ACode :=
  .seq k74_11 k74_0
@[simp] theorem xk74_12 : GoC fns Q s k74_12 st ↔ GoC fns Q (.sq k74_0 :: s) k74_11 st := goC_seq
def k74_13 : ACode :=
  .ops q74_4 k74_12
@[simp] theorem xk74_13 : GoC fns Q s k74_13 st ↔ GoO fns Q s q74_4 k74_12 st := goC_ops
def k74_14 : ACode :=
  .ops [⟨.assign (.c (.slice .nil 0 1 [])), (some 3), none⟩] k74_13
@[simp] theorem xk74_14 : GoC fns Q s k74_14 st ↔ GoO fns Q s [⟨.assign (.c (.slice .nil 0 1 [])), (some 3), none⟩] k74_13 st := goC_ops
def k74_15 : ACode :=
  .ops [⟨.assign (.c (.slice .nil 0 1 [])), (some 2), none⟩] k74_14
@[simp] theorem xk74_15 : GoC fns Q s k74_15 st ↔ GoO fns Q s [⟨.assign (.c (.slice .nil 0 1 [])), (some 2), none⟩] k74_14 st := goC_ops
def af74 : AFunc := ⟨19, k74_15, [.tmp 2], fun _ => none⟩

theorem ok74 : ∃ hs, pFunc Tryz.prog sg hs Tryz.f74 = some af74 := ⟨fun i => if i == 6 then 5 else 0, by kernel_rfl⟩
def q30_0 : List AOper :=
  [⟨.move .look (.t 4), (some 11), none⟩,
    ⟨.move .head (.p 5), (some 13), none⟩,
    ⟨.bin .eql 5 true (.p 13) (.c (.nilI)), (some 14), none⟩,
    ⟨.call 74 [(.t 11, false)], (some 12), none⟩,
    ⟨.assign (.t 12), (some 2), none⟩,
    ⟨.assign (.p 14), (some 3), none⟩]
@[simp] def eq30_0 := id q30_0.eq_1
def q30_1 : List AOper :=
  [⟨.move .look (.t 0), (some 7), none⟩,
    ⟨.call 81 [(.t 7, false)], (some 8), none⟩,
    ⟨.move .look (.t 8), (some 6), none⟩,
    ⟨.extract 6 0, (some 9), none⟩,
    ⟨.extract 6 1, (some 10), none⟩,
    ⟨.assign (.t 9), (some 4), none⟩,
    ⟨.assign (.p 10), (some 5), none⟩]
@[simp] def eq30_1 := id q30_1.eq_1
def q30_2 : List AOper :=
  [⟨.assign (.c (.slice .nil 0 1 [])), (some 2), none⟩,
    ⟨.assign (.c (.bool false)), (some 3), none⟩]
@[simp] def eq30_2 := id q30_2.eq_1
def k30_0 : ACode :=
  .ops q30_0 .ret
@[simp] theorem xk30_0 : GoC fns Q s k30_0 st ↔ GoO fns Q s q30_0 .ret st := goC_ops
def k30_1 : ACode :=
  .ops q30_1 k30_0
@[simp] theorem xk30_1 : GoC fns Q s k30_1 st ↔ GoO fns Q s q30_1 k30_0 st := goC_ops
def k30_2 : ACode :=
  .ops q30_2 k30_1
@[simp] theorem xk30_2 : GoC fns Q s k30_2 st ↔ GoO fns Q s q30_2 k30_1 st := goC_ops
def af30 : AFunc := ⟨15, k30_2, [.tmp 2, .tmp 3], fun _ => none⟩

theorem ok30 : ∃ hs, pFunc Tryz.prog sg hs Tryz.f30 = some af30 := ⟨fun i => 0, by kernel_rfl⟩
def q73_0 : List AOper :=
  [⟨.move .look (.t 0), (some 4), none⟩,
    ⟨.call 168 [(.t 4, false)], (some 5), none⟩,
    ⟨.extract 5 0, (some 6), none⟩,
    ⟨.extract 5 1, (some 7), none⟩,
    ⟨.assign (.t 6), (some 2), none⟩,
    ⟨.assign (.p 7), (some 3), none⟩]
@[simp] def eq73_0 := id q73_0.eq_1
def q73_1 : List AOper :=
  [⟨.assign (.c (.slice .nil 0 1 [])), (some 2), none⟩,
    ⟨.assign (.c (.nilI)), (some 3), none⟩]
@[simp] def eq73_1 := id q73_1.eq_1
def k73_0 : ACode :=
  .ops q73_0 .ret
@[simp] theorem xk73_0 : GoC fns Q s k73_0 st ↔ GoO fns Q s q73_0 .ret st := goC_ops
def k73_1 : ACode :=
  .ops q73_1 k73_0
@[simp] theorem xk73_1 : GoC fns Q s k73_1 st ↔ GoO fns Q s q73_1 k73_0 st := goC_ops
def af73 : AFunc := ⟨8, k73_1, [.tmp 2, .tmp 3], fun _ => none⟩

theorem ok73 : ∃ hs, pFunc Tryz.prog sg hs Tryz.f73 = some af73 := ⟨fun i => 0, by kernel_rfl⟩
def q25_0 : List AOper :=
  [⟨.move .look (.t 4), (some 11), none⟩,
    ⟨.move .head (.p 5), (some 13), none⟩,
    ⟨.bin .eql 5 true (.p 13) (.c (.nilI)), (some 14), none⟩,
    ⟨.call 74 [(.t 11, false)], (some 12), none⟩,
    ⟨.assign (.t 12), (some 2), none⟩,
    ⟨.assign (.p 14), (some 3), none⟩]
@[simp] def eq25_0 := id q25_0.eq_1
def q25_1 : List AOper :=
  [⟨.move .look (.t 0), (some 7), none⟩,
    ⟨.call 73 [(.t 7, false)], (some 8), none⟩,
    ⟨.move .look (.t 8), (some 6), none⟩,
    ⟨.extract 6 0, (some 9), none⟩,
    ⟨.extract 6 1, (some 10), none⟩,
    ⟨.assign (.t 9), (some 4), none⟩,
    ⟨.assign (.p 10), (some 5), none⟩]
@[simp] def eq25_1 := id q25_1.eq_1
def q25_2 : List AOper :=
  [⟨.assign (.c (.slice .nil 0 1 [])), (some 2), none⟩,
    ⟨.assign (.c (.bool false)), (some 3), none⟩]
@[simp] def eq25_2 := id q25_2.eq_1
def k25_0 : ACode :=
  .ops q25_0 .ret
@[simp] theorem xk25_0 : GoC fns Q s k25_0 st ↔ GoO fns Q s q25_0 .ret st := goC_ops
def k25_1 : ACode :=
  .ops q25_1 k25_0
@[simp] theorem xk25_1 : GoC fns Q s k25_1 st ↔ GoO fns Q s q25_1 k25_0 st := goC_ops
def k25_2 : ACode :=
  .ops q25_2 k25_1
@[simp] theorem xk25_2 : GoC fns Q s k25_2 st ↔ GoO fns Q s q25_2 k25_1 st := goC_ops
def af25 : AFunc := ⟨15, k25_2, [.tmp 2, .tmp 3], fun _ => none⟩

theorem ok25 : ∃ hs, pFunc Tryz.prog sg hs Tryz.f25 = some af25 := ⟨fun i => 0, by kernel_rfl⟩
def q6_0 : List AOper :=
  [⟨.call 14 [], (some 123), none⟩,
    ⟨.assign (.p 123), (some 2), none⟩]
@[simp] def eq6_0 := id q6_0.eq_1
def q6_1 : List AOper :=
  [⟨.move .look (.p 11), (some 80), none⟩,
    ⟨.bin .add 1 true (.p 80) (.c (.int .i64 1)), (some 81), none⟩,
    ⟨.assign (.p 81), (some 11), none⟩]
@[simp] def eq6_1 := id q6_1.eq_1
def q6_2 : List AOper :=
  [⟨.move .look (.t 5), (some 87), none⟩,
    ⟨.move .look (.p 11), (some 88), none⟩,
    ⟨.indexAddr 1 (.t 87) (.p 88), (some 89), none⟩,
    ⟨.load .look false 1 (.p 89), (some 90), none⟩,
    ⟨.convBS (.t 90), (some 91), none⟩,
    ⟨.move .look (.t 3), (some 92), none⟩,
    ⟨.move .look (.p 11), (some 93), none⟩,
    ⟨.indexAddr 4 (.t 92) (.p 93), (some 94), none⟩,
    ⟨.fieldAddr 3 (.p 94), (some 95), none⟩,
    ⟨.load .look false 1 (.p 95), (some 96), none⟩,
    ⟨.convBS (.t 96), (some 97), none⟩,
    ⟨.bin .neq 2 false (.p 91) (.p 97), (some 98), none⟩,
    ⟨.move .look (.p 98), (some 99), none⟩,
    ⟨.move .look (.t 7), (some 100), (some (99, false))⟩,
    ⟨.move .look (.p 11), (some 101), (some (99, false))⟩,
    ⟨.indexAddr 2 (.t 100) (.p 101), (some 102), (some (99, false))⟩,
    ⟨.load .look true 2 (.p 102), (some 103), (some (99, false))⟩,
    ⟨.fieldAddr 0 (.p 12), (some 104), (some (99, false))⟩,
    ⟨.load .look false 1 (.p 104), (some 105), (some (99, false))⟩,
    ⟨.fieldAddr 1 (.p 12), (some 106), (some (99, false))⟩,
    ⟨.load .look false 1 (.p 106), (some 107), (some (99, false))⟩,
    ⟨.call 20 [(.p 103, false), (.p 105, false), (.t 107, false)], (some 108), (some (99, false))⟩,
    ⟨.un .not (.p 108), (some 109), (some (99, false))⟩,
    ⟨.pick (.p 99) (.c (.bool true)) (.p 109), (some 110), none⟩,
    ⟨.move .look (.p 110), (some 111), none⟩,
    ⟨.move .look (.t 9), (some 112), (some (111, false))⟩,
    ⟨.move .look (.p 11), (some 113), (some (111, false))⟩,
    ⟨.indexAddr 2 (.t 112) (.p 113), (some 114), (some (111, false))⟩,
    ⟨.load .look true 2 (.p 114), (some 115), (some (111, false))⟩,
    ⟨.fieldAddr 0 (.p 12), (some 116), (some (111, false))⟩,
    ⟨.load .look false 1 (.p 116), (some 117), (some (111, false))⟩,
    ⟨.fieldAddr 1 (.p 12), (some 118), (some (111, false))⟩,
    ⟨.load .look false 1 (.p 118), (some 119), (some (111, false))⟩,
    ⟨.call 20 [(.p 115, false), (.p 117, false), (.t 119, false)], (some 120), (some (111, false))⟩,
    ⟨.un .not (.p 120), (some 121), (some (111, false))⟩,
    ⟨.pick (.p 111) (.c (.bool true)) (.p 121), (some 122), none⟩]
@[simp] def eq6_2 := id q6_2.eq_1
def q6_3 : List AOper :=
  [⟨.move .look (.t 3), (some 82), none⟩,
    ⟨.move .look (.p 11), (some 83), none⟩,
    ⟨.indexAddr 4 (.t 82) (.p 83), (some 84), none⟩,
    ⟨.fieldAddr 1 (.p 84), (some 85), none⟩,
    ⟨.load .take true 2 (.p 85), (some 86), none⟩,
    ⟨.newbox 12 [.int .i64 0, .slice .nil 0 1 []], (some 12), none⟩,
    ⟨.store 2 (.p 12) (.p 86), none, none⟩]
@[simp] def eq6_3 := id q6_3.eq_1
def q6_4 : List AOper :=
  [⟨.move .look (.p 11), (some 76), none⟩,
    ⟨.move .head (.t 3), (some 77), none⟩,
    ⟨.len false (.p 77), (some 78), none⟩,
    ⟨.bin .lss 1 false (.p 76) (.p 78), (some 79), none⟩]
@[simp] def eq6_4 := id q6_4.eq_1
def q6_5 : List AOper :=
  [⟨.move .head (.p 6), (some 42), none⟩,
    ⟨.move .head (.p 4), (some 43), none⟩,
    ⟨.bin .neq 0 false (.p 42) (.p 43), (some 44), none⟩,
    ⟨.move .look (.p 44), (some 45), none⟩,
    ⟨.move .head (.p 8), (some 46), (some (45, false))⟩,
    ⟨.move .head (.p 4), (some 47), (some (45, false))⟩,
    ⟨.bin .neq 0 false (.p 46) (.p 47), (some 48), (some (45, false))⟩,
    ⟨.pick (.p 45) (.c (.bool true)) (.p 48), (some 49), none⟩,
    ⟨.move .look (.p 49), (some 50), none⟩,
    ⟨.move .head (.p 10), (some 51), (some (50, false))⟩,
    ⟨.move .head (.p 4), (some 52), (some (50, false))⟩,
    ⟨.bin .neq 0 false (.p 51) (.p 52), (some 53), (some (50, false))⟩,
    ⟨.pick (.p 50) (.c (.bool true)) (.p 53), (some 54), none⟩,
    ⟨.move .look (.p 54), (some 55), none⟩,
    ⟨.move .head (.t 5), (some 56), (some (55, false))⟩,
    ⟨.len false (.p 56), (some 57), (some (55, false))⟩,
    ⟨.move .head (.t 3), (some 58), (some (55, false))⟩,
    ⟨.len false (.p 58), (some 59), (some (55, false))⟩,
    ⟨.bin .neq 1 false (.p 57) (.p 59), (some 60), (some (55, false))⟩,
    ⟨.pick (.p 55) (.c (.bool true)) (.p 60), (some 61), none⟩,
    ⟨.move .look (.p 61), (some 62), none⟩,
    ⟨.move .head (.t 7), (some 63), (some (62, false))⟩,
    ⟨.len false (.p 63), (some 64), (some (62, false))⟩,
    ⟨.move .head (.t 3), (some 65), (some (62, false))⟩,
    ⟨.len false (.p 65), (some 66), (some (62, false))⟩,
    ⟨.bin .neq 1 false (.p 64) (.p 66), (some 67), (some (62, false))⟩,
    ⟨.pick (.p 62) (.c (.bool true)) (.p 67), (some 68), none⟩,
    ⟨.move .look (.p 68), (some 69), none⟩,
    ⟨.move .head (.t 9), (some 70), (some (69, false))⟩,
    ⟨.len false (.p 70), (some 71), (some (69, false))⟩,
    ⟨.move .head (.t 3), (some 72), (some (69, false))⟩,
    ⟨.len false (.p 72), (some 73), (some (69, false))⟩,
    ⟨.bin .neq 1 false (.p 71) (.p 73), (some 74), (some (69, false))⟩,
    ⟨.pick (.p 69) (.c (.bool true)) (.p 74), (some 75), none⟩]
@[simp] def eq6_5 := id q6_5.eq_1
def q6_6 : List AOper :=
  [⟨.move .look (.t 0), (some 37), none⟩,
    ⟨.call 13 [(.t 37, false)], (some 38), none⟩,
    ⟨.call 25 [(.t 38, false)], (some 39), none⟩,
    ⟨.move .look (.t 39), (some 36), none⟩,
    ⟨.extract 36 0, (some 40), none⟩,
    ⟨.extract 36 1, (some 41), none⟩,
    ⟨.assign (.t 40), (some 9), none⟩,
    ⟨.assign (.p 41), (some 10), none⟩]
@[simp] def eq6_6 := id q6_6.eq_1
def q6_7 : List AOper :=
  [⟨.move .look (.t 0), (some 31), none⟩,
    ⟨.call 13 [(.t 31, false)], (some 32), none⟩,
    ⟨.call 30 [(.t 32, false)], (some 33), none⟩,
    ⟨.move .look (.t 33), (some 30), none⟩,
    ⟨.extract 30 0, (some 34), none⟩,
    ⟨.extract 30 1, (some 35), none⟩,
    ⟨.assign (.t 34), (some 7), none⟩,
    ⟨.assign (.p 35), (some 8), none⟩]
@[simp] def eq6_7 := id q6_7.eq_1
def q6_8 : List AOper :=
  [⟨.move .look (.t 0), (some 25), none⟩,
    ⟨.call 13 [(.t 25, false)], (some 26), none⟩,
    ⟨.call 29 [(.t 26, false)], (some 27), none⟩,
    ⟨.move .look (.t 27), (some 24), none⟩,
    ⟨.extract 24 0, (some 28), none⟩,
    ⟨.extract 24 1, (some 29), none⟩,
    ⟨.assign (.t 28), (some 5), none⟩,
    ⟨.assign (.p 29), (some 6), none⟩]
@[simp] def eq6_8 := id q6_8.eq_1
def q6_9 : List AOper :=
  [⟨.move .look (.t 0), (some 20), none⟩,
    ⟨.call 28 [(.t 20, false)], (some 21), none⟩,
    ⟨.move .look (.t 21), (some 19), none⟩,
    ⟨.extract 19 0, (some 22), none⟩,
    ⟨.extract 19 1, (some 23), none⟩,
    ⟨.assign (.t 22), (some 3), none⟩,
    ⟨.assign (.p 23), (some 4), none⟩]
@[simp] def eq6_9 := id q6_9.eq_1
def q6_10 : List AOper :=
  [⟨.move .look (.t 0), (some 16), none⟩,
    ⟨.call 15 [(.t 16, false)], (some 17), none⟩,
    ⟨.un .not (.p 17), (some 18), none⟩]
@[simp] def eq6_10 := id q6_10.eq_1
def q6_11 : List AOper :=
  [⟨.move .head (.t 0), (some 13), none⟩,
    ⟨.len false (.p 13), (some 14), none⟩,
    ⟨.bin .gtr 1 true (.p 14) (.c (.int .i64 2147483647)), (some 15), none⟩]
@[simp] def eq6_11 := id q6_11.eq_1
def k6_0 : ACode :=
  .ops q6_0 .ret
@[simp] theorem xk6_0 : GoC fns Q s k6_0 st ↔ GoO fns Q s q6_0 .ret st := goC_ops
def k6_1 : ACode :=
  .ops q6_1 .skip
@[simp] theorem xk6_1 : GoC fns Q s k6_1 st ↔ GoO fns Q s q6_1 .skip st := goC_ops
def k6_2 : ACode :=
  .ops [⟨.assign (.c (.bool false)), (some 2), none⟩] .ret
@[simp] theorem xk6_2 : GoC fns Q s k6_2 st ↔ GoO fns Q s [⟨.assign (.c (.bool false)), (some 2), none⟩] .ret st := goC_ops
def k6_3 : ACode :=
  .cond (.p 122) k6_2 .skip
@[simp] theorem xk6_3 : GoC fns Q s k6_3 st ↔ GB fns Q s (peek st (.p 122)) k6_2 .skip st := goC_cond
def k6_4 : ACode :=
  .ops q6_2 k6_3
@[simp] theorem xk6_4 : GoC fns Q s k6_4 st ↔ GoO fns Q s q6_2 k6_3 st := goC_ops
def k6_5 : ACode :=
  .ops q6_3 k6_4
@[simp] theorem xk6_5 : GoC fns Q s k6_5 st ↔ GoO fns Q s q6_3 k6_4 st := goC_ops
def k6_6 : ACode :=
  .block 1 k6_5
@[simp] theorem xk6_6 : GoC fns Q s k6_6 st ↔ GoC fns Q (.bl 1 :: s) k6_5 st := goC_block
def k6_7 : ACode :=
  .seq k6_6 k6_1
@[simp] theorem xk6_7 : GoC fns Q s k6_7 st ↔ GoC fns Q (.sq k6_1 :: s) k6_6 st := goC_seq
def k6_8 : ACode :=
  .cond (.p 79) .skip (.exit 0)
@[simp] theorem xk6_8 : GoC fns Q s k6_8 st ↔ GB fns Q s (peek st (.p 79)) .skip (.exit 0) st := goC_cond
def k6_9 : ACode :=
  .seq k6_8 k6_7
@[simp] theorem xk6_9 : GoC fns Q s k6_9 st ↔ GoC fns Q (.sq k6_7 :: s) k6_8 st := goC_seq
def k6_10 : ACode :=
  .ops q6_4 k6_9
@[simp] theorem xk6_10 : GoC fns Q s k6_10 st ↔ GoO fns Q s q6_4 k6_9 st := goC_ops
def lc6_0 : ACode :=
  k6_10
@[simp] theorem xlc6_0 : GoC fns Q s lc6_0 st ↔ GoC fns Q s k6_10 st := Iff.rfl
def k6_12 : ACode :=
  .loop lc6_0
@[simp] theorem xk6_12 : GoC fns Q s k6_12 st ↔ (LoopR fns lc6_0 st fun r => GoE fns Q s r.1 r.2) := goC_loop
def k6_13 : ACode :=
  .block 0 k6_12
@[simp] theorem xk6_13 : GoC fns Q s k6_13 st ↔ GoC fns Q (.bl 0 :: s) k6_12 st := goC_block
def k6_14 : ACode :=
  .seq k6_13 k6_0
@[simp] theorem xk6_14 : GoC fns Q s k6_14 st ↔ GoC fns Q (.sq k6_0 :: s) k6_13 st := goC_seq
def k6_15 : ACode :=
  .ops [⟨.assign (.c (.int .i64 0)), (some 11), none⟩] k6_14
@[simp] theorem xk6_15 : GoC fns Q s k6_15 st ↔ GoO fns Q s [⟨.assign (.c (.int .i64 0)), (some 11), none⟩] k6_14 st := goC_ops
def k6_16 : ACode :=
  .ops [⟨.assign (.c (.bool false)), (some 2), none⟩] .ret
@[simp] theorem xk6_16 : GoC fns Q s k6_16 st ↔ GoO fns Q s [⟨.assign (.c (.bool false)), (some 2), none⟩] .ret st := goC_ops
def k6_17 : ACode :=
  .cond (.p 75) k6_16 .skip
@[simp] theorem xk6_17 : GoC fns Q s k6_17 st ↔ GB fns Q s (peek st (.p 75)) k6_16 .skip st := goC_cond
def k6_18 : ACode :=
  .seq k6_17 k6_15
@[simp] theorem xk6_18 : GoC fns Q s k6_18 st ↔ GoC fns Q (.sq k6_15 :: s) k6_17 st := goC_seq
def k6_19 : ACode :=
  .ops q6_5 k6_18
@[simp] theorem xk6_19 : GoC fns Q s k6_19 st ↔ GoO fns Q s q6_5 k6_18 st := goC_ops
def k6_20 : ACode :=
  .ops q6_6 k6_19
@[simp] theorem xk6_20 : GoC fns Q s k6_20 st ↔ GoO fns Q s q6_6 k6_19 st := goC_ops
def k6_21 : ACode :=
  .ops q6_7 k6_20
@[simp] theorem xk6_21 : GoC fns Q s k6_21 st ↔ GoO fns Q s q6_7 k6_20 st := goC_ops
def k6_22 : ACode :=
  .ops q6_8 k6_21
@[simp] theorem xk6_22 : GoC fns Q s k6_22 st ↔ GoO fns Q s q6_8 k6_21 st := goC_ops
def k6_23 : ACode :=
  .ops q6_9 k6_22
@[simp] theorem xk6_23 : GoC fns Q s k6_23 st ↔ GoO fns Q s q6_9 k6_22 st := goC_ops
def k6_24 : ACode :=
  .ops [⟨.assign (.c (.bool true)), (some 2), none⟩] .ret
@[simp] theorem xk6_24 : GoC fns Q s k6_24 st ↔ GoO fns Q s [⟨.assign (.c (.bool true)), (some 2), none⟩] .ret st := goC_ops
def k6_25 : ACode :=
  .cond (.p 18) k6_24 .skip
@[simp] theorem xk6_25 : GoC fns Q s k6_25 st ↔ GB fns Q s (peek st (.p 18)) k6_24 .skip st := goC_cond
def k6_26 : ACode :=
  .seq k6_25 k6_23
@[simp] theorem xk6_26 : GoC fns Q s k6_26 st ↔ GoC fns Q (.sq k6_23 :: s) k6_25 st := goC_seq
def k6_27 : ACode :=
  .ops q6_10 k6_26
@[simp] theorem xk6_27 : GoC fns Q s k6_27 st ↔ GoO fns Q s q6_10 k6_26 st := goC_ops
def k6_28 : ACode :=
  .ops [⟨.assign (.c (.bool true)), (some 2), none⟩] .ret
@[simp] theorem xk6_28 : GoC fns Q s k6_28 st ↔ GoO fns Q s [⟨.assign (.c (.bool true)), (some 2), none⟩] .ret st := goC_ops
def k6_29 : ACode :=
  .cond (.p 15) k6_28 .skip
@[simp] theorem xk6_29 : GoC fns Q s k6_29 st ↔ GB fns Q s (peek st (.p 15)) k6_28 .skip st := goC_cond
def k6_30 : ACode :=
  .seq k6_29 k6_27
@[simp] theorem xk6_30 : GoC fns Q s k6_30 st ↔ GoC fns Q (.sq k6_27 :: s) k6_29 st := goC_seq
def k6_31 : ACode :=
  .ops q6_11 k6_30
@[simp] theorem xk6_31 : GoC fns Q s k6_31 st ↔ GoO fns Q s q6_11 k6_30 st := goC_ops
def k6_32 : ACode :=
  .ops [⟨.assign (.c (.bool false)), (some 2), none⟩] k6_31
@[simp] theorem xk6_32 : GoC fns Q s k6_32 st ↔ GoO fns Q s [⟨.assign (.c (.bool false)), (some 2), none⟩] k6_31 st := goC_ops
def af6 : AFunc := ⟨124, k6_32, [.tmp 2], fun _ => none⟩

theorem ok6 : ∃ hs, pFunc Tryz.prog sg hs Tryz.f6 = some af6 := ⟨fun i => 0, by kernel_rfl⟩
end
end Go.Proofs.YtcodfehgnjplcaaGreatDoor.Abs
