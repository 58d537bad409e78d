/- The functions that the law reaches, made ready for the interpreter (printed by a program of this session; the kernel compares each with the given program). -/
import Derived.Test.YtcodfehgnjplcaaGreatDoorFDocHP1
namespace Go.Proofs.YtcodfehgnjplcaaGreatDoor.Abs
set_option linter.all false
set_option maxRecDepth 100000
section
variable {fns : FuncId → Option AFunc} {Q : Ex × St → Prop} {s : List Fr} {c : ACode} {st : St}
def q3_0 : List AOper :=
  [⟨.call 14 [], (some 33), none⟩,
    ⟨.move .look (.p 33), (some 34), none⟩,
    ⟨.move .head (.p 7), (some 35), (some (34, true))⟩,
    ⟨.move .head (.p 4), (some 36), (some (34, true))⟩,
    ⟨.bin .eql 0 false (.p 35) (.p 36), (some 37), (some (34, true))⟩,
    ⟨.pick (.p 34) (.p 37) (.c (.bool false)), (some 38), none⟩,
    ⟨.move .look (.p 38), (some 39), none⟩,
    ⟨.move .look (.p 4), (some 40), (some (39, true))⟩,
    ⟨.un .not (.p 40), (some 41), (some (39, true))⟩,
    ⟨.move .look (.p 41), (some 42), (some (39, true))⟩,
    ⟨.move .head (.p 5), (some 43), (some (42, false))⟩,
    ⟨.move .head (.p 3), (some 44), (some (42, false))⟩,
    ⟨.bin .eql 1 false (.p 43) (.p 44), (some 45), (some (42, false))⟩,
    ⟨.pick (.p 42) (.c (.bool true)) (.p 45), (some 46), (some (39, true))⟩,
    ⟨.pick (.p 39) (.p 46) (.c (.bool false)), (some 47), none⟩,
    ⟨.move .look (.p 47), (some 48), none⟩,
    ⟨.move .look (.t 6), (some 49), (some (48, true))⟩,
    ⟨.convBS (.t 49), (some 50), (some (48, true))⟩,
    ⟨.move .look (.t 0), (some 51), (some (48, true))⟩,
    ⟨.move .head (.p 8), (some 52), (some (48, true))⟩,
    ⟨.sliceSl 1 (.t 51) (some (.p 52)) none, (some 53), (some (48, true))⟩,
    ⟨.convBS (.t 53), (some 54), (some (48, true))⟩,
    ⟨.bin .eql 2 false (.p 50) (.p 54), (some 55), (some (48, true))⟩,
    ⟨.pick (.p 48) (.p 55) (.c (.bool false)), (some 56), none⟩,
    ⟨.assign (.p 56), (some 2), none⟩]
@[simp] def eq3_0 := id q3_0.eq_1
def q3_1 : List AOper :=
  [⟨.move .look (.t 0), (some 26), none⟩,
    ⟨.call 13 [(.t 26, false)], (some 27), none⟩,
    ⟨.call 12 [(.t 27, false)], (some 28), none⟩,
    ⟨.move .look (.t 28), (some 25), none⟩,
    ⟨.extract 25 0, (some 29), none⟩,
    ⟨.extract 25 1, (some 30), none⟩,
    ⟨.extract 25 2, (some 31), none⟩,
    ⟨.assign (.p 29), (some 5), none⟩,
    ⟨.assign (.t 30), (some 6), none⟩,
    ⟨.assign (.p 31), (some 7), none⟩]
@[simp] def eq3_1 := id q3_1.eq_1
def q3_2 : List AOper :=
  [⟨.move .look (.p 4), (some 20), none⟩,
    ⟨.move .look (.p 20), (some 21), none⟩,
    ⟨.move .look (.p 3), (some 22), (some (21, true))⟩,
    ⟨.bin .lss 1 true (.p 22) (.c (.int .i64 0)), (some 23), (some (21, true))⟩,
    ⟨.pick (.p 21) (.p 23) (.c (.bool false)), (some 24), none⟩]
@[simp] def eq3_2 := id q3_2.eq_1
def q3_3 : List AOper :=
  [⟨.move .look (.t 0), (some 16), none⟩,
    ⟨.call 11 [(.t 16, false)], (some 17), none⟩,
    ⟨.move .look (.t 17), (some 15), none⟩,
    ⟨.extract 15 0, (some 18), none⟩,
    ⟨.extract 15 1, (some 19), none⟩,
    ⟨.assign (.p 18), (some 3), none⟩,
    ⟨.assign (.p 19), (some 4), none⟩]
@[simp] def eq3_3 := id q3_3.eq_1
def q3_4 : List AOper :=
  [⟨.move .head (.t 0), (some 12), none⟩,
    ⟨.len false (.p 12), (some 13), none⟩,
    ⟨.bin .gtr 1 true (.p 13) (.c (.int .i64 1000)), (some 14), none⟩]
@[simp] def eq3_4 := id q3_4.eq_1
def q3_5 : List AOper :=
  [⟨.move .head (.t 0), (some 9), none⟩,
    ⟨.len false (.p 9), (some 10), none⟩,
    ⟨.bin .gtr 1 true (.p 10) (.c (.int .i64 2147483647)), (some 11), none⟩]
@[simp] def eq3_5 := id q3_5.eq_1
def k3_0 : ACode :=
  .ops q3_0 .ret
@[simp] theorem xk3_0 : GoC fns Q s k3_0 st ↔ GoO fns Q s q3_0 .ret st := goC_ops
def k3_1 : ACode :=
  .ops [⟨.assign (.c (.int .i64 4)), (some 8), none⟩] .skip
@[simp] theorem xk3_1 : GoC fns Q s k3_1 st ↔ GoO fns Q s [⟨.assign (.c (.int .i64 4)), (some 8), none⟩] .skip st := goC_ops
def k3_2 : ACode :=
  .cond (.p 32) k3_1 .skip
@[simp] theorem xk3_2 : GoC fns Q s k3_2 st ↔ GB fns Q s (peek st (.p 32)) k3_1 .skip st := goC_cond
def k3_3 : ACode :=
  .seq k3_2 k3_0
@[simp] theorem xk3_3 : GoC fns Q s k3_3 st ↔ GoC fns Q (.sq k3_0 :: s) k3_2 st := goC_seq
def k3_4 : ACode :=
  .ops [⟨.move .head (.p 4), (some 32), none⟩] k3_3
@[simp] theorem xk3_4 : GoC fns Q s k3_4 st ↔ GoO fns Q s [⟨.move .head (.p 4), (some 32), none⟩] k3_3 st := goC_ops
def k3_5 : ACode :=
  .ops [⟨.assign (.c (.int .i64 0)), (some 8), none⟩] k3_4
@[simp] theorem xk3_5 : GoC fns Q s k3_5 st ↔ GoO fns Q s [⟨.assign (.c (.int .i64 0)), (some 8), none⟩] k3_4 st := goC_ops
def k3_6 : ACode :=
  .ops q3_1 k3_5
@[simp] theorem xk3_6 : GoC fns Q s k3_6 st ↔ GoO fns Q s q3_1 k3_5 st := goC_ops
def k3_7 : ACode :=
  .ops [⟨.assign (.c (.bool true)), (some 2), none⟩] .ret
@[simp] theorem xk3_7 : GoC fns Q s k3_7 st ↔ GoO fns Q s [⟨.assign (.c (.bool true)), (some 2), none⟩] .ret st := goC_ops
def k3_8 : ACode :=
  .cond (.p 24) k3_7 .skip
@[simp] theorem xk3_8 : GoC fns Q s k3_8 st ↔ GB fns Q s (peek st (.p 24)) k3_7 .skip st := goC_cond
def k3_9 : ACode :=
  .seq k3_8 k3_6
@[simp] theorem xk3_9 : GoC fns Q s k3_9 st ↔ GoC fns Q (.sq k3_6 :: s) k3_8 st := goC_seq
def k3_10 : ACode :=
  .ops q3_2 k3_9
@[simp] theorem xk3_10 : GoC fns Q s k3_10 st ↔ GoO fns Q s q3_2 k3_9 st := goC_ops
def k3_11 : ACode :=
  .ops q3_3 k3_10
@[simp] theorem xk3_11 : GoC fns Q s k3_11 st ↔ GoO fns Q s q3_3 k3_10 st := goC_ops
def k3_12 : ACode :=
  .ops [⟨.assign (.c (.bool true)), (some 2), none⟩] .ret
@[simp] theorem xk3_12 : GoC fns Q s k3_12 st ↔ GoO fns Q s [⟨.assign (.c (.bool true)), (some 2), none⟩] .ret st := goC_ops
def k3_13 : ACode :=
  .cond (.p 14) k3_12 .skip
@[simp] theorem xk3_13 : GoC fns Q s k3_13 st ↔ GB fns Q s (peek st (.p 14)) k3_12 .skip st := goC_cond
def k3_14 : ACode :=
  .seq k3_13 k3_11
@[simp] theorem xk3_14 : GoC fns Q s k3_14 st ↔ GoC fns Q (.sq k3_11 :: s) k3_13 st := goC_seq
def k3_15 : ACode :=
  .ops q3_4 k3_14
@[simp] theorem xk3_15 : GoC fns Q s k3_15 st ↔ GoO fns Q s q3_4 k3_14 st := goC_ops
def k3_16 : ACode :=
  .ops [⟨.assign (.c (.bool true)), (some 2), none⟩] .ret
@[simp] theorem xk3_16 : GoC fns Q s k3_16 st ↔ GoO fns Q s [⟨.assign (.c (.bool true)), (some 2), none⟩] .ret st := goC_ops
def k3_17 : ACode :=
  .cond (.p 11) k3_16 .skip
@[simp] theorem xk3_17 : GoC fns Q s k3_17 st ↔ GB fns Q s (peek st (.p 11)) k3_16 .skip st := goC_cond
def k3_18 : ACode :=
  .seq k3_17 k3_15
@[simp] theorem xk3_18 : GoC fns Q s k3_18 st ↔ GoC fns Q (.sq k3_15 :: s) k3_17 st := goC_seq
def k3_19 : ACode :=
  .ops q3_5 k3_18
@[simp] theorem xk3_19 : GoC fns Q s k3_19 st ↔ GoO fns Q s q3_5 k3_18 st := goC_ops
def k3_20 : ACode :=
  .ops [⟨.assign (.c (.bool false)), (some 2), none⟩] k3_19
@[simp] theorem xk3_20 : GoC fns Q s k3_20 st ↔ GoO fns Q s [⟨.assign (.c (.bool false)), (some 2), none⟩] k3_19 st := goC_ops
def af3 : AFunc := ⟨57, k3_20, [.tmp 2], fun _ => none⟩

theorem ok3 : ∃ hs, pFunc Tryz.prog sg hs Tryz.f3 = some af3 := ⟨fun i => 0, by kernel_rfl⟩
def q80_0 : List AOper :=
  [⟨.move .take (.t 8), (some 54), none⟩,
    ⟨.assign (.t 54), (some 2), none⟩,
    ⟨.assign (.c (.nilI)), (some 3), none⟩]
@[simp] def eq80_0 := id q80_0.eq_1
def q80_1 : List AOper :=
  [⟨.move .take (.t 8), (some 50), none⟩,
    ⟨.move .look (.t 7), (some 51), none⟩,
    ⟨.buildSl 108 1 [.slice .nil 0 1 []] [(0, 1, .t 51)], (some 52), none⟩,
    ⟨.append 108 1 24 false (.t 50) (.p 52), (some 53), none⟩,
    ⟨.assign (.t 53), (some 8), none⟩]
@[simp] def eq80_1 := id q80_1.eq_1
def q80_2 : List AOper :=
  [⟨.move .take (.t 8), (some 48), none⟩,
    ⟨.move .take (.p 9), (some 49), none⟩,
    ⟨.assign (.t 48), (some 2), none⟩,
    ⟨.assign (.p 49), (some 3), none⟩]
@[simp] def eq80_2 := id q80_2.eq_1
def q80_3 : List AOper :=
  [⟨.move .head (.p 9), (some 46), none⟩,
    ⟨.bin .neq 5 true (.p 46) (.c (.nilI)), (some 47), none⟩]
@[simp] def eq80_3 := id q80_3.eq_1
def q80_4 : List AOper :=
  [⟨.move .look (.t 7), (some 44), none⟩,
    ⟨.call 172 [(.t 44, false)], (some 45), none⟩,
    ⟨.assign (.p 45), (some 9), none⟩]
@[simp] def eq80_4 := id q80_4.eq_1
def q80_5 : List AOper :=
  [⟨.move .take (.t 8), (some 39), none⟩,
    ⟨.move .look (.t 0), (some 40), none⟩,
    ⟨.move .look (.t 5), (some 41), none⟩,
    ⟨.call 166 [(.t 40, false), (.t 41, false)], (some 42), none⟩,
    ⟨.mkIface 239 (.p 42), (some 43), none⟩,
    ⟨.assign (.t 39), (some 2), none⟩,
    ⟨.assign (.p 43), (some 3), none⟩]
@[simp] def eq80_5 := id q80_5.eq_1
def q80_6 : List AOper :=
  [⟨.move .look (.p 6), (some 37), none⟩,
    ⟨.un .not (.p 37), (some 38), none⟩]
@[simp] def eq80_6 := id q80_6.eq_1
def q80_7 : List AOper :=
  [⟨.move .look (.p 4), (some 32), none⟩,
    ⟨.move .head (.t 7), (some 33), none⟩,
    ⟨.len false (.p 33), (some 34), none⟩,
    ⟨.convInt .i32 (.p 34), (some 35), none⟩,
    ⟨.bin .sub 1 false (.p 32) (.p 35), (some 36), none⟩,
    ⟨.assign (.p 36), (some 4), none⟩]
@[simp] def eq80_7 := id q80_7.eq_1
def q80_8 : List AOper :=
  [⟨.move .look (.t 5), (some 27), none⟩,
    ⟨.call 64 [(.t 27, false)], (some 28), none⟩,
    ⟨.move .look (.t 28), (some 26), none⟩,
    ⟨.extract 26 0, (some 29), none⟩,
    ⟨.extract 26 1, (some 30), none⟩,
    ⟨.extract 26 2, (some 31), none⟩,
    ⟨.assign (.t 29), (some 7), none⟩,
    ⟨.assign (.t 30), (some 5), none⟩,
    ⟨.assign (.p 31), (some 6), none⟩]
@[simp] def eq80_8 := id q80_8.eq_1
def q80_9 : List AOper :=
  [⟨.move .look (.p 4), (some 24), none⟩,
    ⟨.bin .gtr 1 true (.p 24) (.c (.int .i32 1)), (some 25), none⟩]
@[simp] def eq80_9 := id q80_9.eq_1
def q80_10 : List AOper :=
  [⟨.move .look (.p 4), (some 22), none⟩,
    ⟨.bin .sub 1 true (.p 22) (.c (.int .i32 4)), (some 23), none⟩,
    ⟨.assign (.p 23), (some 4), none⟩]
@[simp] def eq80_10 := id q80_10.eq_1
def q80_11 : List AOper :=
  [⟨.move .look (.t 0), (some 18), none⟩,
    ⟨.move .look (.t 5), (some 19), none⟩,
    ⟨.call 166 [(.t 18, false), (.t 19, false)], (some 20), none⟩,
    ⟨.mkIface 239 (.p 20), (some 21), none⟩,
    ⟨.assign (.c (.slice .nil 0 1 [])), (some 2), none⟩,
    ⟨.assign (.p 21), (some 3), none⟩]
@[simp] def eq80_11 := id q80_11.eq_1
def q80_12 : List AOper :=
  [⟨.move .look (.p 6), (some 16), none⟩,
    ⟨.un .not (.p 16), (some 17), none⟩]
@[simp] def eq80_12 := id q80_12.eq_1
def q80_13 : List AOper :=
  [⟨.move .look (.t 0), (some 11), none⟩,
    ⟨.call 54 [(.t 11, false)], (some 12), none⟩,
    ⟨.move .look (.t 12), (some 10), none⟩,
    ⟨.extract 10 0, (some 13), none⟩,
    ⟨.extract 10 1, (some 14), none⟩,
    ⟨.extract 10 2, (some 15), none⟩,
    ⟨.assign (.p 13), (some 4), none⟩,
    ⟨.assign (.t 14), (some 5), none⟩,
    ⟨.assign (.p 15), (some 6), none⟩]
@[simp] def eq80_13 := id q80_13.eq_1
def q80_14 : List AOper :=
  [⟨.assign (.c (.slice .nil 0 1 [])), (some 2), none⟩,
    ⟨.assign (.c (.nilI)), (some 3), none⟩]
@[simp] def eq80_14 := id q80_14.eq_1
def k80_0 : ACode :=
  .ops q80_0 .ret
@[simp] theorem xk80_0 : GoC fns Q s k80_0 st ↔ GoO fns Q s q80_0 .ret st := goC_ops
def k80_1 : ACode :=
  .ops q80_1 .skip
@[simp] theorem xk80_1 : GoC fns Q s k80_1 st ↔ GoO fns Q s q80_1 .skip st := goC_ops
def k80_2 : ACode :=
  .ops q80_2 .ret
@[simp] theorem xk80_2 : GoC fns Q s k80_2 st ↔ GoO fns Q s q80_2 .ret st := goC_ops
def k80_3 : ACode :=
  .cond (.p 47) k80_2 .skip
@[simp] theorem xk80_3 : GoC fns Q s k80_3 st ↔ GB fns Q s (peek st (.p 47)) k80_2 .skip st := goC_cond
def k80_4 : ACode :=
  .seq k80_3 k80_1
@[simp] theorem xk80_4 : GoC fns Q s k80_4 st ↔ GoC fns Q (.sq k80_1 :: s) k80_3 st := goC_seq
def k80_5 : ACode :=
  .ops q80_3 k80_4
@[simp] theorem xk80_5 : GoC fns Q s k80_5 st ↔ GoO fns Q s q80_3 k80_4 st := goC_ops
def k80_6 : ACode :=
  .ops q80_4 k80_5
@[simp] theorem xk80_6 : GoC fns Q s k80_6 st ↔ GoO fns Q s q80_4 k80_5 st := goC_ops
def k80_7 : ACode :=
  .ops q80_5 .ret
@[simp] theorem xk80_7 : GoC fns Q s k80_7 st ↔ GoO fns Q s q80_5 .ret st := goC_ops
def k80_8 : ACode :=
  .cond (.p 38) k80_7 .skip
@[simp] theorem xk80_8 : GoC fns Q s k80_8 st ↔ GB fns Q s (peek st (.p 38)) k80_7 .skip st := goC_cond
def k80_9 : ACode :=
  .seq k80_8 k80_6
@[simp] theorem xk80_9 : GoC fns Q s k80_9 st ↔ GoC fns Q (.sq k80_6 :: s) k80_8 st := goC_seq
def k80_10 : ACode :=
  .ops q80_6 k80_9
@[simp] theorem xk80_10 : GoC fns Q s k80_10 st ↔ GoO fns Q s q80_6 k80_9 st := goC_ops
def k80_11 : ACode :=
  .ops q80_7 k80_10
@[simp] theorem xk80_11 : GoC fns Q s k80_11 st ↔ GoO fns Q s q80_7 k80_10 st := goC_ops
def k80_12 : ACode :=
  .ops q80_8 k80_11
@[simp] theorem xk80_12 : GoC fns Q s k80_12 st ↔ GoO fns Q s q80_8 k80_11 st := goC_ops
def k80_13 : ACode :=
  .block 1 k80_12
@[simp] theorem xk80_13 : GoC fns Q s k80_13 st ↔ GoC fns Q (.bl 1 :: s) k80_12 st := goC_block
def k80_14 : ACode :=
  .cond (.p 25) .skip (.exit 0)
@[simp] theorem xk80_14 : GoC fns Q s k80_14 st ↔ GB fns Q s (peek st (.p 25)) .skip (.exit 0) st := goC_cond
def k80_15 : ACode :=
  .seq k80_14 k80_13
@[simp] theorem xk80_15 : GoC fns Q s k80_15 st ↔ GoC fns Q (.sq k80_13 :: s) k80_14 st := goC_seq
def k80_16 : ACode :=
  .ops q80_9 k80_15
@[simp] theorem xk80_16 : GoC fns Q s k80_16 st ↔ GoO fns Q s q80_9 k80_15 st := goC_ops
def lc80_0 : ACode :=
  k80_16
@[simp] theorem xlc80_0 : GoC fns Q s lc80_0 st ↔ GoC fns Q s k80_16 st := Iff.rfl
def k80_18 : ACode :=
  .loop lc80_0
@[simp] theorem xk80_18 : GoC fns Q s k80_18 st ↔ (LoopR fns lc80_0 st fun r => GoE fns Q s r.1 r.2) := goC_loop
def k80_19 : ACode :=
  .block 0 k80_18
@[simp] theorem xk80_19 : GoC fns Q s k80_19 st ↔ GoC fns Q (.bl 0 :: s) k80_18 st := goC_block
def k80_20 : ACode :=
  .seq k80_19 k80_0
@[simp] theorem xk80_20 : GoC fns Q s k80_20 st ↔ GoC fns Q (.sq k80_0 :: s) k80_19 st := goC_seq
def k80_21 : ACode :=
  .ops [⟨.assign (.c (.slice .nil 0 1 [])), (some 8), none⟩] k80_20
@[simp] theorem xk80_21 : GoC fns Q s k80_21 st ↔ GoO fns Q s [⟨.assign (.c (.slice .nil 0 1 [])), (some 8), none⟩] k80_20 st := goC_ops
def k80_22 : ACode :=
  .ops [⟨.assign (.c (.slice .nil 0 1 [])), (some 7), none⟩] k80_21
@[simp] theorem xk80_22 : GoC fns Q s k80_22 st ↔ GoO fns Q s [⟨.assign (.c (.slice .nil 0 1 [])), (some 7), none⟩] k80_21 st := goC_ops
def k80_23 : ACode :=
  .ops q80_10 k80_22
@[simp] theorem xk80_23 : GoC fns Q s k80_23 st ↔ GoO fns Q s q80_10 k80_22 st := goC_ops
def k80_24 : ACode :=
  .ops q80_11 .ret
@[simp] theorem xk80_24 : GoC fns Q s k80_24 st ↔ GoO fns Q s q80_11 .ret st := goC_ops
def k80_25 : ACode :=
  .cond (.p 17) k80_24 .skip
@[simp] theorem xk80_25 : GoC fns Q s k80_25 st ↔ GB fns Q s (peek st (.p 17)) k80_24 .skip st := goC_cond
def k80_26 : ACode :=
  .seq k80_25 k80_23
@[simp] theorem xk80_26 : GoC fns Q s k80_26 st ↔ GoC fns Q (.sq k80_23 :: s) k80_25 st := goC_seq
def k80_27 : ACode :=
  .ops q80_12 k80_26
@[simp] theorem xk80_27 : GoC fns Q s k80_27 st ↔ GoO fns Q s q80_12 k80_26 st := goC_ops
def k80_28 : ACode :=
  .ops q80_13 k80_27
@[simp] theorem xk80_28 : GoC fns Q s k80_28 st ↔ GoO fns Q s q80_13 k80_27 st := goC_ops
def k80_29 : ACode :=
  .ops q80_14 k80_28
@[simp] theorem xk80_29 : GoC fns Q s k80_29 st ↔ GoO fns Q s q80_14 k80_28 st := goC_ops
def af80 : AFunc := ⟨55, k80_29, [.tmp 2, .tmp 3], fun _ => none⟩

theorem ok80 : ∃ hs, pFunc Tryz.prog sg hs Tryz.f80 = some af80 := ⟨fun i => 0, by kernel_rfl⟩
def q168_0 : List AOper :=
  [⟨.move .take (.t 8), (some 56), none⟩,
    ⟨.assign (.t 56), (some 2), none⟩,
    ⟨.assign (.c (.nilI)), (some 3), none⟩]
@[simp] def eq168_0 := id q168_0.eq_1
def q168_1 : List AOper :=
  [⟨.move .take (.t 8), (some 51), none⟩,
    ⟨.move .look (.t 7), (some 52), none⟩,
    ⟨.call 170 [(.t 52, false)], (some 53), none⟩,
    ⟨.buildSl 102 2 [.int .u8 0, .slice .nil 0 1 []] [(0, 2, .p 53)], (some 54), none⟩,
    ⟨.append 102 2 32 false (.t 51) (.p 54), (some 55), none⟩,
    ⟨.assign (.t 55), (some 8), none⟩]
@[simp] def eq168_1 := id q168_1.eq_1
def q168_2 : List AOper :=
  [⟨.move .take (.t 8), (some 49), none⟩,
    ⟨.move .take (.p 9), (some 50), none⟩,
    ⟨.assign (.t 49), (some 2), none⟩,
    ⟨.assign (.p 50), (some 3), none⟩]
@[simp] def eq168_2 := id q168_2.eq_1
def q168_3 : List AOper :=
  [⟨.move .head (.p 9), (some 47), none⟩,
    ⟨.bin .neq 5 true (.p 47) (.c (.nilI)), (some 48), none⟩]
@[simp] def eq168_3 := id q168_3.eq_1
def q168_4 : List AOper :=
  [⟨.move .look (.t 7), (some 44), none⟩,
    ⟨.call 170 [(.t 44, false)], (some 45), none⟩,
    ⟨.call 67 [(.p 45, false)], (some 46), none⟩,
    ⟨.assign (.p 46), (some 9), none⟩]
@[simp] def eq168_4 := id q168_4.eq_1
def q168_5 : List AOper :=
  [⟨.move .take (.t 8), (some 39), none⟩,
    ⟨.move .look (.t 0), (some 40), none⟩,
    ⟨.move .look (.t 5), (some 41), none⟩,
    ⟨.call 166 [(.t 40, false), (.t 41, false)], (some 42), none⟩,
    ⟨.mkIface 239 (.p 42), (some 43), none⟩,
    ⟨.assign (.t 39), (some 2), none⟩,
    ⟨.assign (.p 43), (some 3), none⟩]
@[simp] def eq168_5 := id q168_5.eq_1
def q168_6 : List AOper :=
  [⟨.move .look (.p 6), (some 37), none⟩,
    ⟨.un .not (.p 37), (some 38), none⟩]
@[simp] def eq168_6 := id q168_6.eq_1
def q168_7 : List AOper :=
  [⟨.move .look (.p 4), (some 32), none⟩,
    ⟨.move .head (.t 7), (some 33), none⟩,
    ⟨.len false (.p 33), (some 34), none⟩,
    ⟨.convInt .i32 (.p 34), (some 35), none⟩,
    ⟨.bin .sub 1 false (.p 32) (.p 35), (some 36), none⟩,
    ⟨.assign (.p 36), (some 4), none⟩]
@[simp] def eq168_7 := id q168_7.eq_1
def q168_8 : List AOper :=
  [⟨.move .look (.t 5), (some 27), none⟩,
    ⟨.call 64 [(.t 27, false)], (some 28), none⟩,
    ⟨.move .look (.t 28), (some 26), none⟩,
    ⟨.extract 26 0, (some 29), none⟩,
    ⟨.extract 26 1, (some 30), none⟩,
    ⟨.extract 26 2, (some 31), none⟩,
    ⟨.assign (.t 29), (some 7), none⟩,
    ⟨.assign (.t 30), (some 5), none⟩,
    ⟨.assign (.p 31), (some 6), none⟩]
@[simp] def eq168_8 := id q168_8.eq_1
def q168_9 : List AOper :=
  [⟨.move .look (.p 4), (some 24), none⟩,
    ⟨.bin .gtr 1 true (.p 24) (.c (.int .i32 1)), (some 25), none⟩]
@[simp] def eq168_9 := id q168_9.eq_1
def q168_10 : List AOper :=
  [⟨.move .look (.p 4), (some 22), none⟩,
    ⟨.bin .sub 1 true (.p 22) (.c (.int .i32 4)), (some 23), none⟩,
    ⟨.assign (.p 23), (some 4), none⟩]
@[simp] def eq168_10 := id q168_10.eq_1
def q168_11 : List AOper :=
  [⟨.move .look (.t 0), (some 18), none⟩,
    ⟨.move .look (.t 5), (some 19), none⟩,
    ⟨.call 166 [(.t 18, false), (.t 19, false)], (some 20), none⟩,
    ⟨.mkIface 239 (.p 20), (some 21), none⟩,
    ⟨.assign (.c (.slice .nil 0 1 [])), (some 2), none⟩,
    ⟨.assign (.p 21), (some 3), none⟩]
@[simp] def eq168_11 := id q168_11.eq_1
def q168_12 : List AOper :=
  [⟨.move .look (.p 6), (some 16), none⟩,
    ⟨.un .not (.p 16), (some 17), none⟩]
@[simp] def eq168_12 := id q168_12.eq_1
def q168_13 : List AOper :=
  [⟨.move .look (.t 0), (some 11), none⟩,
    ⟨.call 54 [(.t 11, false)], (some 12), none⟩,
    ⟨.move .look (.t 12), (some 10), none⟩,
    ⟨.extract 10 0, (some 13), none⟩,
    ⟨.extract 10 1, (some 14), none⟩,
    ⟨.extract 10 2, (some 15), none⟩,
    ⟨.assign (.p 13), (some 4), none⟩,
    ⟨.assign (.t 14), (some 5), none⟩,
    ⟨.assign (.p 15), (some 6), none⟩]
@[simp] def eq168_13 := id q168_13.eq_1
def q168_14 : List AOper :=
  [⟨.assign (.c (.slice .nil 0 1 [])), (some 2), none⟩,
    ⟨.assign (.c (.nilI)), (some 3), none⟩]
@[simp] def eq168_14 := id q168_14.eq_1
def k168_0 : ACode :=
  .ops q168_0 .ret
@[simp] theorem xk168_0 : GoC fns Q s k168_0 st ↔ GoO fns Q s q168_0 .ret st := goC_ops
def k168_1 : ACode :=
  .ops q168_1 .skip
@[simp] theorem xk168_1 : GoC fns Q s k168_1 st ↔ GoO fns Q s q168_1 .skip st := goC_ops
def k168_2 : ACode :=
  .ops q168_2 .ret
@[simp] theorem xk168_2 : GoC fns Q s k168_2 st ↔ GoO fns Q s q168_2 .ret st := goC_ops
def k168_3 : ACode :=
  .cond (.p 48) k168_2 .skip
@[simp] theorem xk168_3 : GoC fns Q s k168_3 st ↔ GB fns Q s (peek st (.p 48)) k168_2 .skip st := goC_cond
def k168_4 : ACode :=
  .seq k168_3 k168_1
@[simp] theorem xk168_4 : GoC fns Q s k168_4 st ↔ GoC fns Q (.sq k168_1 :: s) k168_3 st := goC_seq
def k168_5 : ACode :=
  .ops q168_3 k168_4
@[simp] theorem xk168_5 : GoC fns Q s k168_5 st ↔ GoO fns Q s q168_3 k168_4 st := goC_ops
def k168_6 : ACode :=
  .ops q168_4 k168_5
@[simp] theorem xk168_6 : GoC fns Q s k168_6 st ↔ GoO fns Q s q168_4 k168_5 st := goC_ops
def k168_7 : ACode :=
  .ops q168_5 .ret
@[simp] theorem xk168_7 : GoC fns Q s k168_7 st ↔ GoO fns Q s q168_5 .ret st := goC_ops
def k168_8 : ACode :=
  .cond (.p 38) k168_7 .skip
@[simp] theorem xk168_8 : GoC fns Q s k168_8 st ↔ GB fns Q s (peek st (.p 38)) k168_7 .skip st := goC_cond
def k168_9 : ACode :=
  .seq k168_8 k168_6
@[simp] theorem xk168_9 : GoC fns Q s k168_9 st ↔ GoC fns Q (.sq k168_6 :: s) k168_8 st := goC_seq
def k168_10 : ACode :=
  .ops q168_6 k168_9
@[simp] theorem xk168_10 : GoC fns Q s k168_10 st ↔ GoO fns Q s q168_6 k168_9 st := goC_ops
def k168_11 : ACode :=
  .ops q168_7 k168_10
@[simp] theorem xk168_11 : GoC fns Q s k168_11 st ↔ GoO fns Q s q168_7 k168_10 st := goC_ops
def k168_12 : ACode :=
  .ops q168_8 k168_11
@[simp] theorem xk168_12 : GoC fns Q s k168_12 st ↔ GoO fns Q s q168_8 k168_11 st := goC_ops
def k168_13 : ACode :=
  .block 1 k168_12
@[simp] theorem xk168_13 : GoC fns Q s k168_13 st ↔ GoC fns Q (.bl 1 :: s) k168_12 st := goC_block
def k168_14 : ACode :=
  .cond (.p 25) .skip (.exit 0)
@[simp] theorem xk168_14 : GoC fns Q s k168_14 st ↔ GB fns Q s (peek st (.p 25)) .skip (.exit 0) st := goC_cond
def k168_15 : ACode :=
  .seq k168_14 k168_13
@[simp] theorem xk168_15 : GoC fns Q s k168_15 st ↔ GoC fns Q (.sq k168_13 :: s) k168_14 st := goC_seq
def k168_16 : ACode :=
  .ops q168_9 k168_15
@[simp] theorem xk168_16 : GoC fns Q s k168_16 st ↔ GoO fns Q s q168_9 k168_15 st := goC_ops
def lc168_0 : ACode :=
  k168_16
@[simp] theorem xlc168_0 : GoC fns Q s lc168_0 st ↔ GoC fns Q s k168_16 st := Iff.rfl
def k168_18 : ACode :=
  .loop lc168_0
@[simp] theorem xk168_18 : GoC fns Q s k168_18 st ↔ (LoopR fns lc168_0 st fun r => GoE fns Q s r.1 r.2) := goC_loop
def k168_19 : ACode :=
  .block 0 k168_18
@[simp] theorem xk168_19 : GoC fns Q s k168_19 st ↔ GoC fns Q (.bl 0 :: s) k168_18 st := goC_block
def k168_20 : ACode :=
  .seq k168_19 k168_0
@[simp] theorem xk168_20 : GoC fns Q s k168_20 st ↔ GoC fns Q (.sq k168_0 :: s) k168_19 st := goC_seq
def k168_21 : ACode :=
  .ops [⟨.assign (.c (.slice .nil 0 1 [])), (some 8), none⟩] k168_20
@[simp] theorem xk168_21 : GoC fns Q s k168_21 st ↔ GoO fns Q s [⟨.assign (.c (.slice .nil 0 1 [])), (some 8), none⟩] k168_20 st := goC_ops
def k168_22 : ACode :=
  .ops [⟨.assign (.c (.slice .nil 0 1 [])), (some 7), none⟩] k168_21
@[simp] theorem xk168_22 : GoC fns Q s k168_22 st ↔ GoO fns Q s [⟨.assign (.c (.slice .nil 0 1 [])), (some 7), none⟩] k168_21 st := goC_ops
def k168_23 : ACode :=
  .ops q168_10 k168_22
@[simp] theorem xk168_23 : GoC fns Q s k168_23 st ↔ GoO fns Q s q168_10 k168_22 st := goC_ops
def k168_24 : ACode :=
  .ops q168_11 .ret
@[simp] theorem xk168_24 : GoC fns Q s k168_24 st ↔ GoO fns Q s q168_11 .ret st := goC_ops
def k168_25 : ACode :=
  .cond (.p 17) k168_24 .skip
@[simp] theorem xk168_25 : GoC fns Q s k168_25 st ↔ GB fns Q s (peek st (.p 17)) k168_24 .skip st := goC_cond
def k168_26 : ACode :=
  .seq k168_25 k168_23
@[simp] theorem xk168_26 : GoC fns Q s k168_26 st ↔ GoC fns Q (.sq k168_23 :: s) k168_25 st := goC_seq
def k168_27 : ACode :=
  .ops q168_12 k168_26
@[simp] theorem xk168_27 : GoC fns Q s k168_27 st ↔ GoO fns Q s q168_12 k168_26 st := goC_ops
def k168_28 : ACode :=
  .ops q168_13 k168_27
@[simp] theorem xk168_28 : GoC fns Q s k168_28 st ↔ GoO fns Q s q168_13 k168_27 st := goC_ops
def k168_29 : ACode :=
  .ops q168_14 k168_28
@[simp] theorem xk168_29 : GoC fns Q s k168_29 st ↔ GoO fns Q s q168_14 k168_28 st := goC_ops
def af168 : AFunc := ⟨57, k168_29, [.tmp 2, .tmp 3], fun _ => none⟩

theorem ok168 : ∃ hs, pFunc Tryz.prog sg hs Tryz.f168 = some af168 := ⟨fun i => 0, by kernel_rfl⟩
end
end Go.Proofs.YtcodfehgnjplcaaGreatDoor.Abs
