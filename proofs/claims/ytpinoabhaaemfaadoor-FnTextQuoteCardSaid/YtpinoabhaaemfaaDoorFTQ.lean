/- The functions that the law reaches, made ready for the interpreter (printed by a program of this session; the kernel compares each with the given program). -/
import Derived.Test.YtpinoabhaaemfaaDoorA27
import Derived.Test.YtpinoabhaaemfaaDoorGrXYtpinoabhaaemfaaDoor
import Derived.Test.YtpinoabhaaemfaaDoorRuXYtpinoabhaaemfaaDoor
import Derived.Test.YtpinoabhaaemfaaDoorProg
import Derived.KernelRfl
namespace Go.Proofs.YtpinoabhaaemfaaDoor.Abs
set_option linter.all false
set_option maxRecDepth 100000
open Go.Proofs
def sg : FuncId → Nat → Nat := fun f i =>
  if f == 14 then (if i == 99 then 1 else 0) else
  if f == 15 then (if i == 99 then 1 else 0) else
  if f == 17 then (if i == 99 then 1 else 0) else
  if f == 18 then (if i == 99 then 1 else 0) else
  if f == 20 then (if i == 99 then 1 else 0) else
  if f == 21 then (if i == 99 then 1 else 0) else
  if f == 23 then (if i == 99 then 1 else 0) else
  if f == 24 then (if i == 99 then 1 else 0) else
  if f == 25 then (if i == 99 then 1 else 0) else
  0
section
variable {fns : FuncId → Option AFunc} {Q : Ex × St → Prop} {s : List Fr} {c : ACode} {st : St}
def q11_0 : List AOper :=
  [⟨.move .take (.p 5), (some 84), none⟩,
 ⟨.move .take (.p 4), (some 85), none⟩,
 ⟨.assign (.p 84), (some 2), none⟩,
 ⟨.assign (.p 85), (some 3), none⟩]
@[simp] def eq11_0 := id q11_0.eq_1
def q11_1 : List AOper :=
  [⟨.assign (.c (.int .i64 0)), (some 2), none⟩,
 ⟨.assign (.c (.int .i64 0)), (some 3), none⟩]
@[simp] def eq11_1 := id q11_1.eq_1
def q11_2 : List AOper :=
  [⟨.move .look (.p 4), (some 69), none⟩,
 ⟨.move .look (.p 6), (some 70), none⟩,
 ⟨.bin .lss 1 false (.p 69) (.p 70), (some 71), none⟩,
 ⟨.move .look (.p 71), (some 72), none⟩,
 ⟨.move .look (.p 4), (some 73), (some (72, false))⟩,
 ⟨.bin .gtr 1 true (.p 73) (.c (.int .i64 1114111)), (some 74), (some (72, false))⟩,
 ⟨.pick (.p 72) (.c (.bool true)) (.p 74), (some 75), none⟩,
 ⟨.move .look (.p 75), (some 76), none⟩,
 ⟨.move .look (.p 4), (some 77), (some (76, false))⟩,
 ⟨.bin .geq 1 true (.p 77) (.c (.int .i64 55296)), (some 78), (some (76, false))⟩,
 ⟨.move .look (.p 78), (some 79), (some (76, false))⟩,
 ⟨.move .look (.p 4), (some 80), (some (79, true))⟩,
 ⟨.bin .lss 1 true (.p 80) (.c (.int .i64 57344)), (some 81), (some (79, true))⟩,
 ⟨.pick (.p 79) (.p 81) (.c (.bool false)), (some 82), (some (76, false))⟩,
 ⟨.pick (.p 76) (.c (.bool true)) (.p 82), (some 83), none⟩]
@[simp] def eq11_2 := id q11_2.eq_1
def q11_3 : List AOper :=
  [⟨.move .look (.p 7), (some 54), none⟩,
 ⟨.bin .add 1 true (.p 54) (.c (.int .i64 1)), (some 55), none⟩,
 ⟨.assign (.p 55), (some 7), none⟩]
@[simp] def eq11_3 := id q11_3.eq_1
def q11_4 : List AOper :=
  [⟨.move .look (.p 4), (some 61), none⟩,
 ⟨.bin .shl 1 true (.p 61) (.c (.int .u64 6)), (some 62), none⟩,
 ⟨.move .look (.p 0), (some 63), none⟩,
 ⟨.move .look (.p 7), (some 64), none⟩,
 ⟨.indexStr (.p 63) (.p 64), (some 65), none⟩,
 ⟨.bin .and 1 true (.p 65) (.c (.int .u8 63)), (some 66), none⟩,
 ⟨.convInt .i64 (.p 66), (some 67), none⟩,
 ⟨.bin .or 1 false (.p 62) (.p 67), (some 68), none⟩,
 ⟨.assign (.p 68), (some 4), none⟩]
@[simp] def eq11_4 := id q11_4.eq_1
def q11_5 : List AOper :=
  [⟨.assign (.c (.int .i64 0)), (some 2), none⟩,
 ⟨.assign (.c (.int .i64 0)), (some 3), none⟩]
@[simp] def eq11_5 := id q11_5.eq_1
def q11_6 : List AOper :=
  [⟨.move .look (.p 0), (some 56), none⟩,
 ⟨.move .look (.p 7), (some 57), none⟩,
 ⟨.indexStr (.p 56) (.p 57), (some 58), none⟩,
 ⟨.bin .shr 1 true (.p 58) (.c (.int .u64 6)), (some 59), none⟩,
 ⟨.bin .neq 1 true (.p 59) (.c (.int .u8 2)), (some 60), none⟩]
@[simp] def eq11_6 := id q11_6.eq_1
def q11_7 : List AOper :=
  [⟨.move .look (.p 7), (some 51), none⟩,
 ⟨.move .look (.p 5), (some 52), none⟩,
 ⟨.bin .lss 1 false (.p 51) (.p 52), (some 53), none⟩]
@[simp] def eq11_7 := id q11_7.eq_1
def q11_8 : List AOper :=
  [⟨.assign (.c (.int .i64 0)), (some 2), none⟩,
 ⟨.assign (.c (.int .i64 0)), (some 3), none⟩]
@[simp] def eq11_8 := id q11_8.eq_1
def q11_9 : List AOper :=
  [⟨.move .head (.p 5), (some 43), none⟩,
 ⟨.bin .eql 1 true (.p 43) (.c (.int .i64 0)), (some 44), none⟩,
 ⟨.move .look (.p 44), (some 45), none⟩,
 ⟨.move .head (.p 0), (some 46), (some (45, false))⟩,
 ⟨.len true (.p 46), (some 47), (some (45, false))⟩,
 ⟨.move .look (.p 5), (some 48), (some (45, false))⟩,
 ⟨.bin .lss 1 false (.p 47) (.p 48), (some 49), (some (45, false))⟩,
 ⟨.pick (.p 45) (.c (.bool true)) (.p 49), (some 50), none⟩]
@[simp] def eq11_9 := id q11_9.eq_1
def q11_10 : List AOper :=
  [⟨.move .look (.p 4), (some 23), none⟩,
 ⟨.bin .and 1 true (.p 23) (.c (.int .i64 31)), (some 24), none⟩,
 ⟨.assign (.c (.int .i64 2)), (some 5), none⟩,
 ⟨.assign (.p 24), (some 4), none⟩,
 ⟨.assign (.c (.int .i64 128)), (some 6), none⟩]
@[simp] def eq11_10 := id q11_10.eq_1
def q11_11 : List AOper :=
  [⟨.move .look (.p 4), (some 32), none⟩,
 ⟨.bin .and 1 true (.p 32) (.c (.int .i64 15)), (some 33), none⟩,
 ⟨.assign (.c (.int .i64 3)), (some 5), none⟩,
 ⟨.assign (.p 33), (some 4), none⟩,
 ⟨.assign (.c (.int .i64 2048)), (some 6), none⟩]
@[simp] def eq11_11 := id q11_11.eq_1
def q11_12 : List AOper :=
  [⟨.move .look (.p 4), (some 41), none⟩,
 ⟨.bin .and 1 true (.p 41) (.c (.int .i64 7)), (some 42), none⟩,
 ⟨.assign (.c (.int .i64 4)), (some 5), none⟩,
 ⟨.assign (.p 42), (some 4), none⟩,
 ⟨.assign (.c (.int .i64 65536)), (some 6), none⟩]
@[simp] def eq11_12 := id q11_12.eq_1
def q11_13 : List AOper :=
  [⟨.move .look (.p 4), (some 35), none⟩,
 ⟨.bin .geq 1 true (.p 35) (.c (.int .i64 240)), (some 36), none⟩,
 ⟨.move .look (.p 36), (some 37), none⟩,
 ⟨.move .look (.p 4), (some 38), (some (37, true))⟩,
 ⟨.bin .lss 1 true (.p 38) (.c (.int .i64 245)), (some 39), (some (37, true))⟩,
 ⟨.pick (.p 37) (.p 39) (.c (.bool false)), (some 40), none⟩,
 ⟨.assign (.p 40), (some 34), none⟩]
@[simp] def eq11_13 := id q11_13.eq_1
def q11_14 : List AOper :=
  [⟨.move .look (.p 4), (some 26), none⟩,
 ⟨.bin .geq 1 true (.p 26) (.c (.int .i64 224)), (some 27), none⟩,
 ⟨.move .look (.p 27), (some 28), none⟩,
 ⟨.move .look (.p 4), (some 29), (some (28, true))⟩,
 ⟨.bin .lss 1 true (.p 29) (.c (.int .i64 240)), (some 30), (some (28, true))⟩,
 ⟨.pick (.p 28) (.p 30) (.c (.bool false)), (some 31), none⟩,
 ⟨.assign (.p 31), (some 25), none⟩]
@[simp] def eq11_14 := id q11_14.eq_1
def q11_15 : List AOper :=
  [⟨.move .look (.p 4), (some 17), none⟩,
 ⟨.bin .geq 1 true (.p 17) (.c (.int .i64 194)), (some 18), none⟩,
 ⟨.move .look (.p 18), (some 19), none⟩,
 ⟨.move .look (.p 4), (some 20), (some (19, true))⟩,
 ⟨.bin .lss 1 true (.p 20) (.c (.int .i64 224)), (some 21), (some (19, true))⟩,
 ⟨.pick (.p 19) (.p 21) (.c (.bool false)), (some 22), none⟩,
 ⟨.assign (.p 22), (some 16), none⟩]
@[simp] def eq11_15 := id q11_15.eq_1
def q11_16 : List AOper :=
  [⟨.assign (.c (.int .i64 0)), (some 5), none⟩,
 ⟨.assign (.c (.int .i64 0)), (some 6), none⟩]
@[simp] def eq11_16 := id q11_16.eq_1
def q11_17 : List AOper :=
  [⟨.move .take (.p 4), (some 15), none⟩,
 ⟨.assign (.c (.int .i64 1)), (some 2), none⟩,
 ⟨.assign (.p 15), (some 3), none⟩]
@[simp] def eq11_17 := id q11_17.eq_1
def q11_18 : List AOper :=
  [⟨.move .look (.p 4), (some 13), none⟩,
 ⟨.bin .lss 1 true (.p 13) (.c (.int .i64 128)), (some 14), none⟩]
@[simp] def eq11_18 := id q11_18.eq_1
def q11_19 : List AOper :=
  [⟨.move .look (.p 0), (some 10), none⟩,
 ⟨.indexStr (.p 10) (.c (.int .i64 0)), (some 11), none⟩,
 ⟨.convInt .i64 (.p 11), (some 12), none⟩,
 ⟨.assign (.p 12), (some 4), none⟩]
@[simp] def eq11_19 := id q11_19.eq_1
def q11_20 : List AOper :=
  [⟨.assign (.c (.int .i64 0)), (some 2), none⟩,
 ⟨.assign (.c (.int .i64 0)), (some 3), none⟩]
@[simp] def eq11_20 := id q11_20.eq_1
def q11_21 : List AOper :=
  [⟨.move .head (.p 0), (some 8), none⟩,
 ⟨.bin .eql 2 true (.p 8) (.c (.str [])), (some 9), none⟩]
@[simp] def eq11_21 := id q11_21.eq_1
def q11_22 : List AOper :=
  [⟨.assign (.c (.int .i64 0)), (some 2), none⟩,
 ⟨.assign (.c (.int .i64 0)), (some 3), none⟩]
@[simp] def eq11_22 := id q11_22.eq_1
def k11_0 : ACode :=
  .ops q11_0 .ret
@[simp] def xk11_0 := @xOps _ _ _ k11_0.eq_1
def k11_1 : ACode :=
  .ops q11_1 .ret
@[simp] def xk11_1 := @xOps _ _ _ k11_1.eq_1
def k11_2 : ACode :=
  .cond (.p 83) k11_1 .skip
@[simp] def xk11_2 := @xCond _ _ _ _ k11_2.eq_1
def k11_3 : ACode :=
  .seq k11_2 k11_0
@[simp] def xk11_3 := @xSeq _ _ _ k11_3.eq_1
def k11_4 : ACode :=
  .ops q11_2 k11_3
@[simp] def xk11_4 := @xOps _ _ _ k11_4.eq_1
def k11_5 : ACode :=
  .ops q11_3 .skip
@[simp] def xk11_5 := @xOps _ _ _ k11_5.eq_1
def k11_6 : ACode :=
  .ops q11_4 .skip
@[simp] def xk11_6 := @xOps _ _ _ k11_6.eq_1
def k11_7 : ACode :=
  .ops q11_5 .ret
@[simp] def xk11_7 := @xOps _ _ _ k11_7.eq_1
def k11_8 : ACode :=
  .cond (.p 60) k11_7 .skip
@[simp] def xk11_8 := @xCond _ _ _ _ k11_8.eq_1
def k11_9 : ACode :=
  .seq k11_8 k11_6
@[simp] def xk11_9 := @xSeq _ _ _ k11_9.eq_1
def k11_10 : ACode :=
  .ops q11_6 k11_9
@[simp] def xk11_10 := @xOps _ _ _ k11_10.eq_1
def k11_11 : ACode :=
  .block 2 k11_10
@[simp] def xk11_11 := @xBlock _ _ _ k11_11.eq_1
def k11_12 : ACode :=
  .seq k11_11 k11_5
@[simp] def xk11_12 := @xSeq _ _ _ k11_12.eq_1
def k11_13 : ACode :=
  .cond (.p 53) .skip (.exit 1)
@[simp] def xk11_13 := @xCond _ _ _ _ k11_13.eq_1
def k11_14 : ACode :=
  .seq k11_13 k11_12
@[simp] def xk11_14 := @xSeq _ _ _ k11_14.eq_1
def k11_15 : ACode :=
  .ops q11_7 k11_14
@[simp] def xk11_15 := @xOps _ _ _ k11_15.eq_1
def lc11_0 : ACode :=
  k11_15
@[simp] def xlc11_0 := @xSame _ _ lc11_0.eq_1
def k11_17 : ACode :=
  .loop lc11_0
@[simp] def xk11_17 := @xLoop _ _ k11_17.eq_1
def k11_18 : ACode :=
  .block 1 k11_17
@[simp] def xk11_18 := @xBlock _ _ _ k11_18.eq_1
def k11_19 : ACode :=
  .seq k11_18 k11_4
@[simp] def xk11_19 := @xSeq _ _ _ k11_19.eq_1
def k11_20 : ACode :=
  .ops [⟨.assign (.c (.int .i64 1)), (some 7), none⟩] k11_19
@[simp] def xk11_20 := @xOps _ _ _ k11_20.eq_1
def k11_21 : ACode :=
  .ops q11_8 .ret
@[simp] def xk11_21 := @xOps _ _ _ k11_21.eq_1
def k11_22 : ACode :=
  .cond (.p 50) k11_21 .skip
@[simp] def xk11_22 := @xCond _ _ _ _ k11_22.eq_1
def k11_23 : ACode :=
  .seq k11_22 k11_20
@[simp] def xk11_23 := @xSeq _ _ _ k11_23.eq_1
def k11_24 : ACode :=
  .ops q11_9 k11_23
@[simp] def xk11_24 := @xOps _ _ _ k11_24.eq_1
def k11_25 : ACode :=
  .ops q11_10 .skip
@[simp] def xk11_25 := @xOps _ _ _ k11_25.eq_1
def k11_26 : ACode :=
  .ops q11_11 .skip
@[simp] def xk11_26 := @xOps _ _ _ k11_26.eq_1
def k11_27 : ACode :=
  .ops q11_12 .skip
@[simp] def xk11_27 := @xOps _ _ _ k11_27.eq_1
def k11_28 : ACode :=
  .cond (.p 34) k11_27 .skip
@[simp] def xk11_28 := @xCond _ _ _ _ k11_28.eq_1
def k11_29 : ACode :=
  .ops q11_13 k11_28
@[simp] def xk11_29 := @xOps _ _ _ k11_29.eq_1
def k11_30 : ACode :=
  .cond (.p 25) k11_26 k11_29
@[simp] def xk11_30 := @xCond _ _ _ _ k11_30.eq_1
def k11_31 : ACode :=
  .ops q11_14 k11_30
@[simp] def xk11_31 := @xOps _ _ _ k11_31.eq_1
def k11_32 : ACode :=
  .cond (.p 16) k11_25 k11_31
@[simp] def xk11_32 := @xCond _ _ _ _ k11_32.eq_1
def k11_33 : ACode :=
  .ops q11_15 k11_32
@[simp] def xk11_33 := @xOps _ _ _ k11_33.eq_1
def k11_34 : ACode :=
  .block 0 k11_33
@[simp] def xk11_34 := @xBlock _ _ _ k11_34.eq_1
def k11_35 : ACode :=
  .seq k11_34 k11_24
@[simp] def xk11_35 := @xSeq _ _ _ k11_35.eq_1
def k11_36 : ACode :=
  .ops q11_16 k11_35
@[simp] def xk11_36 := @xOps _ _ _ k11_36.eq_1
def k11_37 : ACode :=
  .ops q11_17 .ret
@[simp] def xk11_37 := @xOps _ _ _ k11_37.eq_1
def k11_38 : ACode :=
  .cond (.p 14) k11_37 .skip
@[simp] def xk11_38 := @xCond _ _ _ _ k11_38.eq_1
def k11_39 : ACode :=
  .seq k11_38 k11_36
@[simp] def xk11_39 := @xSeq _ _ _ k11_39.eq_1
def k11_40 : ACode :=
  .ops q11_18 k11_39
@[simp] def xk11_40 := @xOps _ _ _ k11_40.eq_1
def k11_41 : ACode :=
  .ops q11_19 k11_40
@[simp] def xk11_41 := @xOps _ _ _ k11_41.eq_1
def k11_42 : ACode :=
  .ops q11_20 .ret
@[simp] def xk11_42 := @xOps _ _ _ k11_42.eq_1
def k11_43 : ACode :=
  .cond (.p 9) k11_42 .skip
@[simp] def xk11_43 := @xCond _ _ _ _ k11_43.eq_1
def k11_44 : ACode :=
  .seq k11_43 k11_41
@[simp] def xk11_44 := @xSeq _ _ _ k11_44.eq_1
def k11_45 : ACode :=
  .ops q11_21 k11_44
@[simp] def xk11_45 := @xOps _ _ _ k11_45.eq_1
def k11_46 : ACode :=
  .ops q11_22 k11_45
@[simp] def xk11_46 := @xOps _ _ _ k11_46.eq_1
def af11 : AFunc := ⟨86, k11_46, [.tmp 2, .tmp 3], fun _ _ => none⟩

theorem ok11 : ∃ hs, pFunc Tryd.prog sg hs Tryd.f11 = some af11 := ⟨fun i => 0, by kernel_rfl⟩
def q9_0 : List AOper :=
  [⟨.move .look (.p 3), (some 19), none⟩,
 ⟨.move .look (.p 4), (some 20), none⟩,
 ⟨.bin .add 1 false (.p 19) (.p 20), (some 21), none⟩,
 ⟨.assign (.p 21), (some 3), none⟩]
@[simp] def eq9_0 := id q9_0.eq_1
def q9_1 : List AOper :=
  [⟨.move .head (.p 4), (some 17), none⟩,
 ⟨.bin .eql 1 true (.p 17) (.c (.int .i64 0)), (some 18), none⟩]
@[simp] def eq9_1 := id q9_1.eq_1
def q9_2 : List AOper :=
  [⟨.move .look (.p 0), (some 11), none⟩,
 ⟨.move .head (.p 3), (some 12), none⟩,
 ⟨.sliceStr (.p 11) (some (.p 12)) none, (some 13), none⟩,
 ⟨.call 11 [(.p 13, false)], (some 14), none⟩,
 ⟨.move .look (.t 14), (some 10), none⟩,
 ⟨.extract 10 0, (some 15), none⟩,
 ⟨.extract 10 1, (some 16), none⟩,
 ⟨.assign (.p 15), (some 4), none⟩,
 ⟨.assign (.p 16), (some 5), none⟩]
@[simp] def eq9_2 := id q9_2.eq_1
def q9_3 : List AOper :=
  [⟨.move .look (.p 3), (some 6), none⟩,
 ⟨.move .head (.p 0), (some 7), none⟩,
 ⟨.len true (.p 7), (some 8), none⟩,
 ⟨.bin .lss 1 false (.p 6) (.p 8), (some 9), none⟩]
@[simp] def eq9_3 := id q9_3.eq_1
def k9_0 : ACode :=
  .ops [⟨.assign (.c (.bool true)), (some 2), none⟩] .ret
@[simp] def xk9_0 := @xOps _ _ _ k9_0.eq_1
def k9_1 : ACode :=
  .ops q9_0 .skip
@[simp] def xk9_1 := @xOps _ _ _ k9_1.eq_1
def k9_2 : ACode :=
  .ops [⟨.assign (.c (.bool false)), (some 2), none⟩] .ret
@[simp] def xk9_2 := @xOps _ _ _ k9_2.eq_1
def k9_3 : ACode :=
  .cond (.p 18) k9_2 .skip
@[simp] def xk9_3 := @xCond _ _ _ _ k9_3.eq_1
def k9_4 : ACode :=
  .seq k9_3 k9_1
@[simp] def xk9_4 := @xSeq _ _ _ k9_4.eq_1
def k9_5 : ACode :=
  .ops q9_1 k9_4
@[simp] def xk9_5 := @xOps _ _ _ k9_5.eq_1
def k9_6 : ACode :=
  .ops q9_2 k9_5
@[simp] def xk9_6 := @xOps _ _ _ k9_6.eq_1
def k9_7 : ACode :=
  .block 1 k9_6
@[simp] def xk9_7 := @xBlock _ _ _ k9_7.eq_1
def k9_8 : ACode :=
  .cond (.p 9) .skip (.exit 0)
@[simp] def xk9_8 := @xCond _ _ _ _ k9_8.eq_1
def k9_9 : ACode :=
  .seq k9_8 k9_7
@[simp] def xk9_9 := @xSeq _ _ _ k9_9.eq_1
def k9_10 : ACode :=
  .ops q9_3 k9_9
@[simp] def xk9_10 := @xOps _ _ _ k9_10.eq_1
def lc9_0 : ACode :=
  k9_10
@[simp] def xlc9_0 := @xSame _ _ lc9_0.eq_1
def k9_12 : ACode :=
  .loop lc9_0
@[simp] def xk9_12 := @xLoop _ _ k9_12.eq_1
def k9_13 : ACode :=
  .block 0 k9_12
@[simp] def xk9_13 := @xBlock _ _ _ k9_13.eq_1
def k9_14 : ACode :=
  .seq k9_13 k9_0
@[simp] def xk9_14 := @xSeq _ _ _ k9_14.eq_1
def k9_15 : ACode :=
  .ops [⟨.assign (.c (.int .i64 0)), (some 3), none⟩] k9_14
@[simp] def xk9_15 := @xOps _ _ _ k9_15.eq_1
def k9_16 : ACode :=
  .ops [⟨.assign (.c (.bool false)), (some 2), none⟩] k9_15
@[simp] def xk9_16 := @xOps _ _ _ k9_16.eq_1
def af9 : AFunc := ⟨22, k9_16, [.tmp 2], fun _ _ => none⟩

theorem ok9 : ∃ hs, pFunc Tryd.prog sg hs Tryd.f9 = some af9 := ⟨fun i => 0, by kernel_rfl⟩
def q5_0 : List AOper :=
  [⟨.move .head (.p 0), (some 3), none⟩,
 ⟨.len true (.p 3), (some 4), none⟩,
 ⟨.bin .leq 1 true (.p 4) (.c (.int .i64 300)), (some 5), none⟩,
 ⟨.move .look (.p 5), (some 6), none⟩,
 ⟨.move .look (.p 0), (some 7), (some (6, true))⟩,
 ⟨.call 9 [(.p 7, false)], (some 8), (some (6, true))⟩,
 ⟨.pick (.p 6) (.p 8) (.c (.bool false)), (some 9), none⟩,
 ⟨.assign (.p 9), (some 2), none⟩]
@[simp] def eq5_0 := id q5_0.eq_1
def k5_0 : ACode :=
  .ops q5_0 .ret
@[simp] def xk5_0 := @xOps _ _ _ k5_0.eq_1
def k5_1 : ACode :=
  .ops [⟨.assign (.c (.bool false)), (some 2), none⟩] k5_0
@[simp] def xk5_1 := @xOps _ _ _ k5_1.eq_1
def af5 : AFunc := ⟨10, k5_1, [.tmp 2], fun _ _ => none⟩

theorem ok5 : ∃ hs, pFunc Tryd.prog sg hs Tryd.f5 = some af5 := ⟨fun i => 0, by kernel_rfl⟩
def q20_0 : List AOper :=
  [⟨.assign (.c (.int .i64 0)), (some 4), none⟩,
 ⟨.assign (.c (.bool false)), (some 5), none⟩]
@[simp] def eq20_0 := id q20_0.eq_1
def q20_1 : List AOper :=
  [⟨.move .take (.p 6), (some 32), none⟩,
 ⟨.assign (.p 32), (some 4), none⟩,
 ⟨.assign (.c (.bool true)), (some 5), none⟩]
@[simp] def eq20_1 := id q20_1.eq_1
def q20_2 : List AOper :=
  [⟨.move .look (.p 0), (some 21), none⟩,
 ⟨.move .look (.p 0), (some 22), none⟩,
 ⟨.nilCheck (.p 22), (some 23), none⟩,
 ⟨.fieldAddr 0 (.p 23), (some 24), none⟩,
 ⟨.load .look false 1 (.p 24), (some 25), none⟩,
 ⟨.move .look (.p 6), (some 26), none⟩,
 ⟨.move .look (.p 1), (some 27), none⟩,
 ⟨.bin .add 1 false (.p 26) (.p 27), (some 28), none⟩,
 ⟨.sliceSl 1 (.t 25) none (some (.p 28)), (some 29), none⟩,
 ⟨.nilCheck (.p 21), (some 30), none⟩,
 ⟨.fieldAddr 0 (.p 30), (some 31), none⟩,
 ⟨.store 1 (.p 31) (.t 29), none, none⟩]
@[simp] def eq20_2 := id q20_2.eq_1
def q20_3 : List AOper :=
  [⟨.move .look (.p 1), (some 12), none⟩,
 ⟨.move .look (.p 0), (some 13), none⟩,
 ⟨.nilCheck (.p 13), (some 14), none⟩,
 ⟨.fieldAddr 0 (.p 14), (some 15), none⟩,
 ⟨.load .head false 1 (.p 15), (some 16), none⟩,
 ⟨.cap (.p 16), (some 17), none⟩,
 ⟨.move .look (.p 6), (some 18), none⟩,
 ⟨.bin .sub 1 false (.p 17) (.p 18), (some 19), none⟩,
 ⟨.bin .leq 1 false (.p 12) (.p 19), (some 20), none⟩]
@[simp] def eq20_3 := id q20_3.eq_1
def q20_4 : List AOper :=
  [⟨.move .look (.p 0), (some 7), none⟩,
 ⟨.nilCheck (.p 7), (some 8), none⟩,
 ⟨.fieldAddr 0 (.p 8), (some 9), none⟩,
 ⟨.load .head false 1 (.p 9), (some 10), none⟩,
 ⟨.len false (.p 10), (some 11), none⟩,
 ⟨.assign (.p 11), (some 6), none⟩]
@[simp] def eq20_4 := id q20_4.eq_1
def q20_5 : List AOper :=
  [⟨.assign (.c (.int .i64 0)), (some 4), none⟩,
 ⟨.assign (.c (.bool false)), (some 5), none⟩]
@[simp] def eq20_5 := id q20_5.eq_1
def k20_0 : ACode :=
  .ops q20_0 .ret
@[simp] def xk20_0 := @xOps _ _ _ k20_0.eq_1
def k20_1 : ACode :=
  .ops q20_1 .ret
@[simp] def xk20_1 := @xOps _ _ _ k20_1.eq_1
def k20_2 : ACode :=
  .ops q20_2 k20_1
@[simp] def xk20_2 := @xOps _ _ _ k20_2.eq_1
def k20_3 : ACode :=
  .cond (.p 20) k20_2 .skip
@[simp] def xk20_3 := @xCond _ _ _ _ k20_3.eq_1
def k20_4 : ACode :=
  .seq k20_3 k20_0
@[simp] def xk20_4 := @xSeq _ _ _ k20_4.eq_1
def k20_5 : ACode :=
  .ops q20_3 k20_4
@[simp] def xk20_5 := @xOps _ _ _ k20_5.eq_1
def k20_6 : ACode :=
  .ops q20_4 k20_5
@[simp] def xk20_6 := @xOps _ _ _ k20_6.eq_1
def k20_7 : ACode :=
  .ops q20_5 k20_6
@[simp] def xk20_7 := @xOps _ _ _ k20_7.eq_1
def af20 : AFunc := ⟨33, k20_7, [.tmp 4, .tmp 5], fun _ _ => none⟩

theorem ok20 : ∃ hs, pFunc Tryd.prog sg hs Tryd.f20 = some af20 := ⟨fun i => 0, by kernel_rfl⟩
def q23_0 : List AOper :=
  [⟨.move .look (.p 0), (some 3), none⟩,
 ⟨.nilCheck (.p 3), (some 4), none⟩,
 ⟨.fieldAddr 0 (.p 4), (some 5), none⟩,
 ⟨.load .head false 1 (.p 5), (some 6), none⟩,
 ⟨.len false (.p 6), (some 7), none⟩,
 ⟨.move .look (.p 0), (some 8), none⟩,
 ⟨.nilCheck (.p 8), (some 9), none⟩,
 ⟨.fieldAddr 1 (.p 9), (some 10), none⟩,
 ⟨.load .look false 1 (.p 10), (some 11), none⟩,
 ⟨.bin .sub 1 false (.p 7) (.p 11), (some 12), none⟩,
 ⟨.assign (.p 12), (some 2), none⟩]
@[simp] def eq23_0 := id q23_0.eq_1
def k23_0 : ACode :=
  .ops q23_0 .ret
@[simp] def xk23_0 := @xOps _ _ _ k23_0.eq_1
def k23_1 : ACode :=
  .ops [⟨.assign (.c (.int .i64 0)), (some 2), none⟩] k23_0
@[simp] def xk23_1 := @xOps _ _ _ k23_1.eq_1
def af23 : AFunc := ⟨13, k23_1, [.tmp 2], fun _ _ => none⟩

theorem ok23 : ∃ hs, pFunc Tryd.prog sg hs Tryd.f23 = some af23 := ⟨fun i => 0, by kernel_rfl⟩
def q24_0 : List AOper :=
  [⟨.move .look (.p 0), (some 13), none⟩,
 ⟨.nilCheck (.p 13), (some 14), none⟩,
 ⟨.fieldAddr 2 (.p 14), (some 15), none⟩,
 ⟨.store 1 (.p 15) (.c (.int .i8 0)), none, none⟩]
@[simp] def eq24_0 := id q24_0.eq_1
def q24_1 : List AOper :=
  [⟨.move .look (.p 0), (some 10), none⟩,
 ⟨.nilCheck (.p 10), (some 11), none⟩,
 ⟨.fieldAddr 1 (.p 11), (some 12), none⟩,
 ⟨.store 1 (.p 12) (.c (.int .i64 0)), none, none⟩]
@[simp] def eq24_1 := id q24_1.eq_1
def q24_2 : List AOper :=
  [⟨.move .look (.p 0), (some 2), none⟩,
 ⟨.move .look (.p 0), (some 3), none⟩,
 ⟨.nilCheck (.p 3), (some 4), none⟩,
 ⟨.fieldAddr 0 (.p 4), (some 5), none⟩,
 ⟨.load .look false 1 (.p 5), (some 6), none⟩,
 ⟨.sliceSl 1 (.t 6) none (some (.c (.int .i64 0))), (some 7), none⟩,
 ⟨.nilCheck (.p 2), (some 8), none⟩,
 ⟨.fieldAddr 0 (.p 8), (some 9), none⟩,
 ⟨.store 1 (.p 9) (.t 7), none, none⟩]
@[simp] def eq24_2 := id q24_2.eq_1
def k24_0 : ACode :=
  .ops q24_0 .ret
def k24_1 : ACode :=
  .ops q24_1 k24_0
def k24_2 : ACode :=
  .ops q24_2 k24_1
def af24 : AFunc := ⟨16, k24_2, [], fun _ _ => none⟩

theorem ok24 : ∃ hs, pFunc Tryd.prog sg hs Tryd.f24 = some af24 := ⟨fun i => 0, by kernel_rfl⟩
def q25_0 : List AOper :=
  [⟨.move .look (.t 6), (some 25), none⟩,
 ⟨.move .head (.p 7), (some 26), none⟩,
 ⟨.sliceSl 1 (.t 25) none (some (.p 26)), (some 27), none⟩,
 ⟨.assign (.t 27), (some 4), none⟩]
@[simp] def eq25_0 := id q25_0.eq_1
def q25_1 : List AOper :=
  [⟨.move .look (.m 6), (some 22), none⟩,
 ⟨.move .look (.t 0), (some 23), none⟩,
 ⟨.copyB 1 false (.m 22) (.p 23), (some 24), none⟩,
 ⟨.assign (.p 24), (some 7), none⟩]
@[simp] def eq25_1 := id q25_1.eq_1
def q25_2 : List AOper :=
  [⟨.move .look (.p 5), (some 20), none⟩,
 ⟨.dead, (some 21), none⟩,
 ⟨.assign (.t 21), (some 6), none⟩]
@[simp] def eq25_2 := id q25_2.eq_1
def q25_3 : List AOper :=
  [⟨.move .head (.t 0), (some 17), none⟩,
 ⟨.cap (.p 17), (some 18), none⟩,
 ⟨.bin .mul 1 true (.c (.int .i64 2)) (.p 18), (some 19), none⟩,
 ⟨.assign (.p 19), (some 5), none⟩]
@[simp] def eq25_3 := id q25_3.eq_1
def q25_4 : List AOper :=
  [⟨.move .look (.p 5), (some 12), none⟩,
 ⟨.move .head (.t 0), (some 13), none⟩,
 ⟨.cap (.p 13), (some 14), none⟩,
 ⟨.bin .mul 1 true (.c (.int .i64 2)) (.p 14), (some 15), none⟩,
 ⟨.bin .lss 1 false (.p 12) (.p 15), (some 16), none⟩]
@[simp] def eq25_4 := id q25_4.eq_1
def q25_5 : List AOper :=
  [⟨.move .head (.t 0), (some 8), none⟩,
 ⟨.len false (.p 8), (some 9), none⟩,
 ⟨.move .look (.p 1), (some 10), none⟩,
 ⟨.bin .add 1 false (.p 9) (.p 10), (some 11), none⟩,
 ⟨.assign (.p 11), (some 5), none⟩]
@[simp] def eq25_5 := id q25_5.eq_1
def k25_0 : ACode :=
  .ops q25_0 .ret
def k25_1 : ACode :=
  .ops q25_1 k25_0
def k25_2 : ACode :=
  .ops q25_2 k25_1
def k25_3 : ACode :=
  .ops q25_3 .skip
def k25_4 : ACode :=
  .cond (.p 16) k25_3 .skip
def k25_5 : ACode :=
  .seq k25_4 k25_2
def k25_6 : ACode :=
  .ops q25_4 k25_5
def k25_7 : ACode :=
  .ops q25_5 k25_6
def k25_8 : ACode :=
  .ops [⟨.dead, none, none⟩] k25_7
def k25_9 : ACode :=
  .ops [⟨.assign (.c (.slice .nil 0 1 [])), (some 4), none⟩] k25_8
def af25 : AFunc := ⟨28, k25_9, [.tmp 4], growX⟩

theorem ok25 : ∃ hs, pFunc Tryd.prog sg hs Tryd.f25 = some ⟨af25.n, af25.code, af25.res, fun _ _ => none⟩ := ⟨fun i => if i == 22 then 1 else 0, by kernel_rfl⟩
def q21_0 : List AOper :=
  [⟨.move .take (.p 5), (some 109), none⟩,
 ⟨.assign (.p 109), (some 4), none⟩]
@[simp] def eq21_0 := id q21_0.eq_1
def q21_1 : List AOper :=
  [⟨.move .look (.p 0), (some 98), none⟩,
 ⟨.move .look (.p 0), (some 99), none⟩,
 ⟨.nilCheck (.p 99), (some 100), none⟩,
 ⟨.fieldAddr 0 (.p 100), (some 101), none⟩,
 ⟨.load .look false 1 (.p 101), (some 102), none⟩,
 ⟨.move .look (.p 5), (some 103), none⟩,
 ⟨.move .look (.p 1), (some 104), none⟩,
 ⟨.bin .add 1 false (.p 103) (.p 104), (some 105), none⟩,
 ⟨.sliceSl 1 (.t 102) none (some (.p 105)), (some 106), none⟩,
 ⟨.nilCheck (.p 98), (some 107), none⟩,
 ⟨.fieldAddr 0 (.p 107), (some 108), none⟩,
 ⟨.store 1 (.p 108) (.t 106), none, none⟩]
@[simp] def eq21_1 := id q21_1.eq_1
def q21_2 : List AOper :=
  [⟨.move .look (.p 0), (some 95), none⟩,
 ⟨.nilCheck (.p 95), (some 96), none⟩,
 ⟨.fieldAddr 1 (.p 96), (some 97), none⟩,
 ⟨.store 1 (.p 97) (.c (.int .i64 0)), none, none⟩]
@[simp] def eq21_2 := id q21_2.eq_1
def q21_3 : List AOper :=
  [⟨.move .look (.p 0), (some 55), none⟩,
 ⟨.nilCheck (.p 55), (some 56), none⟩,
 ⟨.fieldAddr 0 (.p 56), (some 57), none⟩,
 ⟨.load .look false 1 (.p 57), (some 58), none⟩,
 ⟨.move .look (.p 0), (some 59), none⟩,
 ⟨.nilCheck (.p 59), (some 60), none⟩,
 ⟨.fieldAddr 0 (.p 60), (some 61), none⟩,
 ⟨.load .look false 1 (.p 61), (some 62), none⟩,
 ⟨.move .look (.p 0), (some 63), none⟩,
 ⟨.nilCheck (.p 63), (some 64), none⟩,
 ⟨.fieldAddr 1 (.p 64), (some 65), none⟩,
 ⟨.load .head false 1 (.p 65), (some 66), none⟩,
 ⟨.sliceSl 1 (.t 62) (some (.p 66)) none, (some 67), none⟩,
 ⟨.copyB 1 false (.m 58) (.p 67), (some 68), none⟩]
@[simp] def eq21_3 := id q21_3.eq_1
def q21_4 : List AOper :=
  [⟨.load .look false 1 (.c (.gl 4)), (some 75), none⟩,
 ⟨.dead, none, none⟩]
@[simp] def eq21_4 := id q21_4.eq_1
def q21_5 : List AOper :=
  [⟨.move .look (.p 0), (some 76), none⟩,
 ⟨.move .look (.p 0), (some 77), none⟩,
 ⟨.nilCheck (.p 77), (some 78), none⟩,
 ⟨.fieldAddr 0 (.p 78), (some 79), none⟩,
 ⟨.load .look false 1 (.p 79), (some 80), none⟩,
 ⟨.move .look (.p 0), (some 81), none⟩,
 ⟨.nilCheck (.p 81), (some 82), none⟩,
 ⟨.fieldAddr 1 (.p 82), (some 83), none⟩,
 ⟨.load .head false 1 (.p 83), (some 84), none⟩,
 ⟨.sliceSl 1 (.t 80) (some (.p 84)) none, (some 85), none⟩,
 ⟨.move .look (.p 0), (some 86), none⟩,
 ⟨.nilCheck (.p 86), (some 87), none⟩,
 ⟨.fieldAddr 1 (.p 87), (some 88), none⟩,
 ⟨.load .look false 1 (.p 88), (some 89), none⟩,
 ⟨.move .look (.p 1), (some 90), none⟩,
 ⟨.bin .add 1 false (.p 89) (.p 90), (some 91), none⟩,
 ⟨.hcall 25 [(.t 85, false), (.p 91, false)], (some 92), none⟩,
 ⟨.nilCheck (.p 76), (some 93), none⟩,
 ⟨.fieldAddr 0 (.p 93), (some 94), none⟩,
 ⟨.store 1 (.p 94) (.t 92), none, none⟩]
@[simp] def eq21_5 := id q21_5.eq_1
def q21_6 : List AOper :=
  [⟨.move .look (.p 8), (some 69), none⟩,
 ⟨.move .look (.p 8), (some 70), none⟩,
 ⟨.bin .sub 1 true (.c (.int .i64 9223372036854775807)) (.p 70), (some 71), none⟩,
 ⟨.move .look (.p 1), (some 72), none⟩,
 ⟨.bin .sub 1 false (.p 71) (.p 72), (some 73), none⟩,
 ⟨.bin .gtr 1 false (.p 69) (.p 73), (some 74), none⟩]
@[simp] def eq21_6 := id q21_6.eq_1
def q21_7 : List AOper :=
  [⟨.move .look (.p 1), (some 49), none⟩,
 ⟨.move .look (.p 8), (some 50), none⟩,
 ⟨.bin .quo 1 true (.p 50) (.c (.int .i64 2)), (some 51), none⟩,
 ⟨.move .look (.p 5), (some 52), none⟩,
 ⟨.bin .sub 1 false (.p 51) (.p 52), (some 53), none⟩,
 ⟨.bin .leq 1 false (.p 49) (.p 53), (some 54), none⟩]
@[simp] def eq21_7 := id q21_7.eq_1
def q21_8 : List AOper :=
  [⟨.move .look (.p 0), (some 44), none⟩,
 ⟨.nilCheck (.p 44), (some 45), none⟩,
 ⟨.fieldAddr 0 (.p 45), (some 46), none⟩,
 ⟨.load .head false 1 (.p 46), (some 47), none⟩,
 ⟨.cap (.p 47), (some 48), none⟩,
 ⟨.assign (.p 48), (some 8), none⟩]
@[simp] def eq21_8 := id q21_8.eq_1
def q21_9 : List AOper :=
  [⟨.move .look (.p 0), (some 39), none⟩,
 ⟨.move .look (.p 1), (some 40), none⟩,
 ⟨.mkSl true 5 1 1 [.int .u8 0] (.p 40) (.c (.int .i64 64)), (some 41), none⟩,
 ⟨.nilCheck (.p 39), (some 42), none⟩,
 ⟨.fieldAddr 0 (.p 42), (some 43), none⟩,
 ⟨.store 1 (.p 43) (.t 41), none, none⟩]
@[simp] def eq21_9 := id q21_9.eq_1
def q21_10 : List AOper :=
  [⟨.move .look (.p 0), (some 30), none⟩,
 ⟨.nilCheck (.p 30), (some 31), none⟩,
 ⟨.fieldAddr 0 (.p 31), (some 32), none⟩,
 ⟨.load .head false 1 (.p 32), (some 33), none⟩,
 ⟨.bin .eql 3 true (.p 33) (.c (.slice .nil 0 1 [])), (some 34), none⟩,
 ⟨.move .look (.p 34), (some 35), none⟩,
 ⟨.move .look (.p 1), (some 36), (some (35, true))⟩,
 ⟨.bin .leq 1 true (.p 36) (.c (.int .i64 64)), (some 37), (some (35, true))⟩,
 ⟨.pick (.p 35) (.p 37) (.c (.bool false)), (some 38), none⟩]
@[simp] def eq21_10 := id q21_10.eq_1
def q21_11 : List AOper :=
  [⟨.move .take (.p 6), (some 29), none⟩,
 ⟨.assign (.p 29), (some 4), none⟩]
@[simp] def eq21_11 := id q21_11.eq_1
def q21_12 : List AOper :=
  [⟨.move .look (.p 0), (some 23), none⟩,
 ⟨.move .look (.p 1), (some 24), none⟩,
 ⟨.hcall 20 [(.p 23, false), (.p 24, false)], (some 25), none⟩,
 ⟨.move .look (.t 25), (some 22), none⟩,
 ⟨.extract 22 0, (some 26), none⟩,
 ⟨.extract 22 1, (some 27), none⟩,
 ⟨.assign (.p 26), (some 6), none⟩,
 ⟨.assign (.p 27), (some 7), none⟩]
@[simp] def eq21_12 := id q21_12.eq_1
def q21_13 : List AOper :=
  [⟨.move .look (.p 0), (some 20), none⟩,
 ⟨.hcall 24 [(.p 20, false)], (some 21), none⟩]
@[simp] def eq21_13 := id q21_13.eq_1
def q21_14 : List AOper :=
  [⟨.move .head (.p 5), (some 11), none⟩,
 ⟨.bin .eql 1 true (.p 11) (.c (.int .i64 0)), (some 12), none⟩,
 ⟨.move .look (.p 12), (some 13), none⟩,
 ⟨.move .look (.p 0), (some 14), (some (13, true))⟩,
 ⟨.nilCheck (.p 14), (some 15), (some (13, true))⟩,
 ⟨.fieldAddr 1 (.p 15), (some 16), (some (13, true))⟩,
 ⟨.load .head false 1 (.p 16), (some 17), (some (13, true))⟩,
 ⟨.bin .neq 1 true (.p 17) (.c (.int .i64 0)), (some 18), (some (13, true))⟩,
 ⟨.pick (.p 13) (.p 18) (.c (.bool false)), (some 19), none⟩]
@[simp] def eq21_14 := id q21_14.eq_1
def q21_15 : List AOper :=
  [⟨.move .look (.p 0), (some 9), none⟩,
 ⟨.hcall 23 [(.p 9, false)], (some 10), none⟩,
 ⟨.assign (.p 10), (some 5), none⟩]
@[simp] def eq21_15 := id q21_15.eq_1
def k21_0 : ACode :=
  .ops q21_0 .ret
@[simp] def xk21_0 := @xOps _ _ _ k21_0.eq_1
def k21_1 : ACode :=
  .ops q21_1 k21_0
@[simp] def xk21_1 := @xOps _ _ _ k21_1.eq_1
def k21_2 : ACode :=
  .ops q21_2 k21_1
@[simp] def xk21_2 := @xOps _ _ _ k21_2.eq_1
def k21_3 : ACode :=
  .ops q21_3 .skip
def k21_4 : ACode :=
  .ops q21_4 .skip
def k21_5 : ACode :=
  .ops q21_5 .skip
@[simp] def xk21_5 := @xOps _ _ _ k21_5.eq_1
def k21_6 : ACode :=
  .cond (.p 74) k21_4 k21_5
@[simp] def xk21_6 := @xCond _ _ _ _ k21_6.eq_1
def k21_7 : ACode :=
  .ops q21_6 k21_6
@[simp] def xk21_7 := @xOps _ _ _ k21_7.eq_1
def k21_8 : ACode :=
  .cond (.p 54) k21_3 k21_7
@[simp] def xk21_8 := @xCond _ _ _ _ k21_8.eq_1
def k21_9 : ACode :=
  .seq k21_8 k21_2
@[simp] def xk21_9 := @xSeq _ _ _ k21_9.eq_1
def k21_10 : ACode :=
  .ops q21_7 k21_9
@[simp] def xk21_10 := @xOps _ _ _ k21_10.eq_1
def k21_11 : ACode :=
  .ops q21_8 k21_10
@[simp] def xk21_11 := @xOps _ _ _ k21_11.eq_1
def k21_12 : ACode :=
  .ops [⟨.assign (.c (.int .i64 0)), (some 4), none⟩] .ret
@[simp] def xk21_12 := @xOps _ _ _ k21_12.eq_1
def k21_13 : ACode :=
  .ops q21_9 k21_12
@[simp] def xk21_13 := @xOps _ _ _ k21_13.eq_1
def k21_14 : ACode :=
  .cond (.p 38) k21_13 .skip
@[simp] def xk21_14 := @xCond _ _ _ _ k21_14.eq_1
def k21_15 : ACode :=
  .seq k21_14 k21_11
@[simp] def xk21_15 := @xSeq _ _ _ k21_15.eq_1
def k21_16 : ACode :=
  .ops q21_10 k21_15
@[simp] def xk21_16 := @xOps _ _ _ k21_16.eq_1
def k21_17 : ACode :=
  .ops q21_11 .ret
def k21_18 : ACode :=
  .cond (.p 28) k21_17 .skip
@[simp] def xk21_18 := @xCond _ _ _ _ k21_18.eq_1
def k21_19 : ACode :=
  .seq k21_18 k21_16
@[simp] def xk21_19 := @xSeq _ _ _ k21_19.eq_1
def k21_20 : ACode :=
  .ops [⟨.move .head (.p 7), (some 28), none⟩] k21_19
@[simp] def xk21_20 := @xOps _ _ _ k21_20.eq_1
def k21_21 : ACode :=
  .ops q21_12 k21_20
@[simp] def xk21_21 := @xOps _ _ _ k21_21.eq_1
def k21_22 : ACode :=
  .ops q21_13 .skip
def k21_23 : ACode :=
  .cond (.p 19) k21_22 .skip
@[simp] def xk21_23 := @xCond _ _ _ _ k21_23.eq_1
def k21_24 : ACode :=
  .seq k21_23 k21_21
@[simp] def xk21_24 := @xSeq _ _ _ k21_24.eq_1
def k21_25 : ACode :=
  .ops q21_14 k21_24
@[simp] def xk21_25 := @xOps _ _ _ k21_25.eq_1
def k21_26 : ACode :=
  .ops q21_15 k21_25
@[simp] def xk21_26 := @xOps _ _ _ k21_26.eq_1
def k21_27 : ACode :=
  .ops [⟨.assign (.c (.int .i64 0)), (some 4), none⟩] k21_26
@[simp] def xk21_27 := @xOps _ _ _ k21_27.eq_1
def af21 : AFunc := ⟨110, k21_27, [.tmp 4], fun _ _ => none⟩

theorem ok21 : ∃ hs, pFunc Tryd.prog sg hs Tryd.f21 = some af21 := ⟨fun i => if i == 41 then 1 else 0, by kernel_rfl⟩
def q17_0 : List AOper :=
  [⟨.move .look (.p 0), (some 19), none⟩,
 ⟨.nilCheck (.p 19), (some 20), none⟩,
 ⟨.fieldAddr 0 (.p 20), (some 21), none⟩,
 ⟨.load .look false 1 (.p 21), (some 22), none⟩,
 ⟨.move .look (.p 5), (some 23), none⟩,
 ⟨.move .take (.p 1), (some 24), none⟩,
 ⟨.indexAddr 1 (.m 22) (.p 23), (some 25), none⟩,
 ⟨.store 1 (.p 25) (.p 24), none, none⟩]
@[simp] def eq17_0 := id q17_0.eq_1
def q17_1 : List AOper :=
  [⟨.move .look (.p 0), (some 17), none⟩,
 ⟨.hcall 21 [(.p 17, false), (.c (.int .i64 1), false)], (some 18), none⟩,
 ⟨.assign (.p 18), (some 5), none⟩]
@[simp] def eq17_1 := id q17_1.eq_1
def q17_2 : List AOper :=
  [⟨.move .look (.p 6), (some 15), none⟩,
 ⟨.un .not (.p 15), (some 16), none⟩]
@[simp] def eq17_2 := id q17_2.eq_1
def q17_3 : List AOper :=
  [⟨.move .look (.p 0), (some 11), none⟩,
 ⟨.hcall 20 [(.p 11, false), (.c (.int .i64 1), false)], (some 12), none⟩,
 ⟨.move .look (.t 12), (some 10), none⟩,
 ⟨.extract 10 0, (some 13), none⟩,
 ⟨.extract 10 1, (some 14), none⟩,
 ⟨.assign (.p 13), (some 5), none⟩,
 ⟨.assign (.p 14), (some 6), none⟩]
@[simp] def eq17_3 := id q17_3.eq_1
def q17_4 : List AOper :=
  [⟨.move .look (.p 0), (some 7), none⟩,
 ⟨.nilCheck (.p 7), (some 8), none⟩,
 ⟨.fieldAddr 2 (.p 8), (some 9), none⟩,
 ⟨.store 1 (.p 9) (.c (.int .i8 0)), none, none⟩]
@[simp] def eq17_4 := id q17_4.eq_1
def k17_0 : ACode :=
  .ops [⟨.assign (.c (.nilI)), (some 4), none⟩] .ret
@[simp] def xk17_0 := @xOps _ _ _ k17_0.eq_1
def k17_1 : ACode :=
  .ops q17_0 k17_0
@[simp] def xk17_1 := @xOps _ _ _ k17_1.eq_1
def k17_2 : ACode :=
  .ops q17_1 .skip
@[simp] def xk17_2 := @xOps _ _ _ k17_2.eq_1
def k17_3 : ACode :=
  .cond (.p 16) k17_2 .skip
@[simp] def xk17_3 := @xCond _ _ _ _ k17_3.eq_1
def k17_4 : ACode :=
  .seq k17_3 k17_1
@[simp] def xk17_4 := @xSeq _ _ _ k17_4.eq_1
def k17_5 : ACode :=
  .ops q17_2 k17_4
@[simp] def xk17_5 := @xOps _ _ _ k17_5.eq_1
def k17_6 : ACode :=
  .ops q17_3 k17_5
@[simp] def xk17_6 := @xOps _ _ _ k17_6.eq_1
def k17_7 : ACode :=
  .ops q17_4 k17_6
@[simp] def xk17_7 := @xOps _ _ _ k17_7.eq_1
def k17_8 : ACode :=
  .ops [⟨.assign (.c (.nilI)), (some 4), none⟩] k17_7
@[simp] def xk17_8 := @xOps _ _ _ k17_8.eq_1
def af17 : AFunc := ⟨26, k17_8, [.tmp 4], fun _ _ => none⟩

theorem ok17 : ∃ hs, pFunc Tryd.prog sg hs Tryd.f17 = some af17 := ⟨fun i => if i == 25 then 1 else 0, by kernel_rfl⟩
def q18_0 : List AOper :=
  [⟨.move .look (.p 0), (some 24), none⟩,
 ⟨.nilCheck (.p 24), (some 25), none⟩,
 ⟨.fieldAddr 0 (.p 25), (some 26), none⟩,
 ⟨.load .look false 1 (.p 26), (some 27), none⟩,
 ⟨.move .head (.p 6), (some 28), none⟩,
 ⟨.sliceSl 1 (.m 27) (some (.p 28)) none, (some 29), none⟩,
 ⟨.move .look (.p 1), (some 30), none⟩,
 ⟨.copyB 1 true (.m 29) (.p 30), (some 31), none⟩,
 ⟨.assign (.p 31), (some 4), none⟩,
 ⟨.assign (.c (.nilI)), (some 5), none⟩]
@[simp] def eq18_0 := id q18_0.eq_1
def q18_1 : List AOper :=
  [⟨.move .look (.p 0), (some 20), none⟩,
 ⟨.move .head (.p 1), (some 21), none⟩,
 ⟨.len true (.p 21), (some 22), none⟩,
 ⟨.hcall 21 [(.p 20, false), (.p 22, false)], (some 23), none⟩,
 ⟨.assign (.p 23), (some 6), none⟩]
@[simp] def eq18_1 := id q18_1.eq_1
def q18_2 : List AOper :=
  [⟨.move .look (.p 7), (some 18), none⟩,
 ⟨.un .not (.p 18), (some 19), none⟩]
@[simp] def eq18_2 := id q18_2.eq_1
def q18_3 : List AOper :=
  [⟨.move .look (.p 0), (some 12), none⟩,
 ⟨.move .head (.p 1), (some 13), none⟩,
 ⟨.len true (.p 13), (some 14), none⟩,
 ⟨.hcall 20 [(.p 12, false), (.p 14, false)], (some 15), none⟩,
 ⟨.move .look (.t 15), (some 11), none⟩,
 ⟨.extract 11 0, (some 16), none⟩,
 ⟨.extract 11 1, (some 17), none⟩,
 ⟨.assign (.p 16), (some 6), none⟩,
 ⟨.assign (.p 17), (some 7), none⟩]
@[simp] def eq18_3 := id q18_3.eq_1
def q18_4 : List AOper :=
  [⟨.move .look (.p 0), (some 8), none⟩,
 ⟨.nilCheck (.p 8), (some 9), none⟩,
 ⟨.fieldAddr 2 (.p 9), (some 10), none⟩,
 ⟨.store 1 (.p 10) (.c (.int .i8 0)), none, none⟩]
@[simp] def eq18_4 := id q18_4.eq_1
def q18_5 : List AOper :=
  [⟨.assign (.c (.int .i64 0)), (some 4), none⟩,
 ⟨.assign (.c (.nilI)), (some 5), none⟩]
@[simp] def eq18_5 := id q18_5.eq_1
def k18_0 : ACode :=
  .ops q18_0 .ret
@[simp] def xk18_0 := @xOps _ _ _ k18_0.eq_1
def k18_1 : ACode :=
  .ops q18_1 .skip
@[simp] def xk18_1 := @xOps _ _ _ k18_1.eq_1
def k18_2 : ACode :=
  .cond (.p 19) k18_1 .skip
@[simp] def xk18_2 := @xCond _ _ _ _ k18_2.eq_1
def k18_3 : ACode :=
  .seq k18_2 k18_0
@[simp] def xk18_3 := @xSeq _ _ _ k18_3.eq_1
def k18_4 : ACode :=
  .ops q18_2 k18_3
@[simp] def xk18_4 := @xOps _ _ _ k18_4.eq_1
def k18_5 : ACode :=
  .ops q18_3 k18_4
@[simp] def xk18_5 := @xOps _ _ _ k18_5.eq_1
def k18_6 : ACode :=
  .ops q18_4 k18_5
@[simp] def xk18_6 := @xOps _ _ _ k18_6.eq_1
def k18_7 : ACode :=
  .ops q18_5 k18_6
@[simp] def xk18_7 := @xOps _ _ _ k18_7.eq_1
def af18 : AFunc := ⟨32, k18_7, [.tmp 4, .tmp 5], fun _ _ => none⟩

theorem ok18 : ∃ hs, pFunc Tryd.prog sg hs Tryd.f18 = some af18 := ⟨fun i => if i == 29 then 1 else 0, by kernel_rfl⟩
def q19_0 : List AOper :=
  [⟨.move .look (.p 0), (some 11), none⟩,
 ⟨.indexStr (.p 11) (.c (.int .i64 0)), (some 12), none⟩,
 ⟨.convInt .i32 (.p 12), (some 13), none⟩,
 ⟨.assign (.p 13), (some 2), none⟩,
 ⟨.assign (.c (.int .i64 1)), (some 3), none⟩]
@[simp] def eq19_0 := id q19_0.eq_1
def q19_1 : List AOper :=
  [⟨.move .look (.p 0), (some 15), none⟩,
 ⟨.call 22 [(.p 15, false)], (some 16), none⟩,
 ⟨.move .look (.t 16), (some 14), none⟩,
 ⟨.extract 14 0, (some 17), none⟩,
 ⟨.extract 14 1, (some 18), none⟩,
 ⟨.assign (.p 17), (some 2), none⟩,
 ⟨.assign (.p 18), (some 3), none⟩]
@[simp] def eq19_1 := id q19_1.eq_1
def q19_2 : List AOper :=
  [⟨.move .head (.p 0), (some 4), none⟩,
 ⟨.bin .neq 2 true (.p 4) (.c (.str [])), (some 5), none⟩,
 ⟨.move .look (.p 5), (some 6), none⟩,
 ⟨.move .look (.p 0), (some 7), (some (6, true))⟩,
 ⟨.indexStr (.p 7) (.c (.int .i64 0)), (some 8), (some (6, true))⟩,
 ⟨.bin .lss 1 true (.p 8) (.c (.int .u8 128)), (some 9), (some (6, true))⟩,
 ⟨.pick (.p 6) (.p 9) (.c (.bool false)), (some 10), none⟩]
@[simp] def eq19_2 := id q19_2.eq_1
def q19_3 : List AOper :=
  [⟨.assign (.c (.int .i32 0)), (some 2), none⟩,
 ⟨.assign (.c (.int .i64 0)), (some 3), none⟩]
@[simp] def eq19_3 := id q19_3.eq_1
def k19_0 : ACode :=
  .ops q19_0 .ret
def k19_1 : ACode :=
  .ops q19_1 .skip
def k19_2 : ACode :=
  .cond (.p 10) k19_0 k19_1
def k19_3 : ACode :=
  .seq k19_2 .ret
def k19_4 : ACode :=
  .ops q19_2 k19_3
def k19_5 : ACode :=
  .ops q19_3 k19_4
def af19 : AFunc := ⟨19, k19_5, [.tmp 2, .tmp 3], runeX⟩

theorem ok19 : ∃ hs, pFunc Tryd.prog sg hs Tryd.f19 = some ⟨af19.n, af19.code, af19.res, fun _ _ => none⟩ := ⟨fun i => 0, by kernel_rfl⟩
def q15_0 : List AOper :=
  [⟨.move .look (.p 0), (some 5), none⟩,
 ⟨.nilCheck (.p 5), (some 6), none⟩,
 ⟨.fieldAddr 0 (.p 6), (some 7), none⟩,
 ⟨.load .look false 1 (.p 7), (some 8), none⟩,
 ⟨.move .look (.p 0), (some 9), none⟩,
 ⟨.nilCheck (.p 9), (some 10), none⟩,
 ⟨.fieldAddr 1 (.p 10), (some 11), none⟩,
 ⟨.load .head false 1 (.p 11), (some 12), none⟩,
 ⟨.sliceSl 1 (.t 8) (some (.p 12)) none, (some 13), none⟩,
 ⟨.convBS (.t 13), (some 14), none⟩,
 ⟨.assign (.p 14), (some 2), none⟩]
@[simp] def eq15_0 := id q15_0.eq_1
def q15_1 : List AOper :=
  [⟨.move .head (.p 0), (some 3), none⟩,
 ⟨.bin .eql 4 true (.p 3) (.c (.nilptr)), (some 4), none⟩]
@[simp] def eq15_1 := id q15_1.eq_1
def k15_0 : ACode :=
  .ops q15_0 .ret
@[simp] def xk15_0 := @xOps _ _ _ k15_0.eq_1
def k15_1 : ACode :=
  .ops [⟨.assign (.c (.str [60, 110, 105, 108, 62])), (some 2), none⟩] .ret
def k15_2 : ACode :=
  .cond (.p 4) k15_1 .skip
@[simp] def xk15_2 := @xCond _ _ _ _ k15_2.eq_1
def k15_3 : ACode :=
  .seq k15_2 k15_0
@[simp] def xk15_3 := @xSeq _ _ _ k15_3.eq_1
def k15_4 : ACode :=
  .ops q15_1 k15_3
@[simp] def xk15_4 := @xOps _ _ _ k15_4.eq_1
def k15_5 : ACode :=
  .ops [⟨.assign (.c (.str [])), (some 2), none⟩] k15_4
@[simp] def xk15_5 := @xOps _ _ _ k15_5.eq_1
def af15 : AFunc := ⟨15, k15_5, [.tmp 2], fun _ _ => none⟩

theorem ok15 : ∃ hs, pFunc Tryd.prog sg hs Tryd.f15 = some af15 := ⟨fun i => 0, by kernel_rfl⟩
def q16_0 : List AOper :=
  [⟨.hcall 15 [(.p 4, false)], (some 142), none⟩,
 ⟨.assign (.p 142), (some 2), none⟩]
@[simp] def eq16_0 := id q16_0.eq_1
def q16_1 : List AOper :=
  [⟨.move .look (.p 0), (some 137), none⟩,
 ⟨.move .head (.p 5), (some 138), none⟩,
 ⟨.sliceStr (.p 137) (some (.p 138)) none, (some 139), none⟩,
 ⟨.hcall 18 [(.p 4, false), (.p 139, false)], (some 140), none⟩]
@[simp] def eq16_1 := id q16_1.eq_1
def q16_2 : List AOper :=
  [⟨.move .look (.p 5), (some 133), none⟩,
 ⟨.move .head (.p 0), (some 134), none⟩,
 ⟨.len true (.p 134), (some 135), none⟩,
 ⟨.bin .lss 1 false (.p 133) (.p 135), (some 136), none⟩]
@[simp] def eq16_2 := id q16_2.eq_1
def q16_3 : List AOper :=
  [⟨.move .look (.p 6), (some 130), none⟩,
 ⟨.move .look (.p 9), (some 131), none⟩,
 ⟨.bin .add 1 false (.p 130) (.p 131), (some 132), none⟩,
 ⟨.assign (.p 132), (some 6), none⟩]
@[simp] def eq16_3 := id q16_3.eq_1
def q16_4 : List AOper :=
  [⟨.move .take (.p 6), (some 129), none⟩,
 ⟨.assign (.p 129), (some 5), none⟩]
@[simp] def eq16_4 := id q16_4.eq_1
def q16_5 : List AOper :=
  [⟨.move .look (.p 6), (some 126), none⟩,
 ⟨.move .look (.p 9), (some 127), none⟩,
 ⟨.bin .add 1 false (.p 126) (.p 127), (some 128), none⟩,
 ⟨.assign (.p 128), (some 6), none⟩]
@[simp] def eq16_5 := id q16_5.eq_1
def q16_6 : List AOper :=
  [⟨.move .look (.p 8), (some 122), none⟩,
 ⟨.bin .and 1 true (.p 122) (.c (.int .i32 15)), (some 123), none⟩,
 ⟨.indexStr (.c (.str [48, 49, 50, 51, 52, 53, 54, 55, 56, 57, 97, 98, 99, 100, 101, 102])) (.p 123), (some 124), none⟩,
 ⟨.hcall 17 [(.p 4, false), (.p 124, false)], (some 125), none⟩]
@[simp] def eq16_6 := id q16_6.eq_1
def q16_7 : List AOper :=
  [⟨.move .look (.p 0), (some 116), none⟩,
 ⟨.move .head (.p 5), (some 117), none⟩,
 ⟨.move .head (.p 6), (some 118), none⟩,
 ⟨.sliceStr (.p 116) (some (.p 117)) (some (.p 118)), (some 119), none⟩,
 ⟨.hcall 18 [(.p 4, false), (.p 119, false)], (some 120), none⟩]
@[simp] def eq16_7 := id q16_7.eq_1
def q16_8 : List AOper :=
  [⟨.move .look (.p 5), (some 113), none⟩,
 ⟨.move .look (.p 6), (some 114), none⟩,
 ⟨.bin .lss 1 false (.p 113) (.p 114), (some 115), none⟩]
@[simp] def eq16_8 := id q16_8.eq_1
def q16_9 : List AOper :=
  [⟨.move .head (.p 8), (some 107), none⟩,
 ⟨.bin .eql 1 true (.p 107) (.c (.int .i32 8232)), (some 108), none⟩,
 ⟨.move .look (.p 108), (some 109), none⟩,
 ⟨.move .head (.p 8), (some 110), (some (109, false))⟩,
 ⟨.bin .eql 1 true (.p 110) (.c (.int .i32 8233)), (some 111), (some (109, false))⟩,
 ⟨.pick (.p 109) (.c (.bool true)) (.p 111), (some 112), none⟩]
@[simp] def eq16_9 := id q16_9.eq_1
def q16_10 : List AOper :=
  [⟨.move .take (.p 6), (some 106), none⟩,
 ⟨.assign (.p 106), (some 5), none⟩]
@[simp] def eq16_10 := id q16_10.eq_1
def q16_11 : List AOper :=
  [⟨.move .look (.p 6), (some 103), none⟩,
 ⟨.move .look (.p 9), (some 104), none⟩,
 ⟨.bin .add 1 false (.p 103) (.p 104), (some 105), none⟩,
 ⟨.assign (.p 105), (some 6), none⟩]
@[simp] def eq16_11 := id q16_11.eq_1
def q16_12 : List AOper :=
  [⟨.move .look (.p 0), (some 97), none⟩,
 ⟨.move .head (.p 5), (some 98), none⟩,
 ⟨.move .head (.p 6), (some 99), none⟩,
 ⟨.sliceStr (.p 97) (some (.p 98)) (some (.p 99)), (some 100), none⟩,
 ⟨.hcall 18 [(.p 4, false), (.p 100, false)], (some 101), none⟩]
@[simp] def eq16_12 := id q16_12.eq_1
def q16_13 : List AOper :=
  [⟨.move .look (.p 5), (some 94), none⟩,
 ⟨.move .look (.p 6), (some 95), none⟩,
 ⟨.bin .lss 1 false (.p 94) (.p 95), (some 96), none⟩]
@[simp] def eq16_13 := id q16_13.eq_1
def q16_14 : List AOper :=
  [⟨.move .head (.p 8), (some 88), none⟩,
 ⟨.bin .eql 1 true (.p 88) (.c (.int .i32 65533)), (some 89), none⟩,
 ⟨.move .look (.p 89), (some 90), none⟩,
 ⟨.move .head (.p 9), (some 91), (some (90, true))⟩,
 ⟨.bin .eql 1 true (.p 91) (.c (.int .i64 1)), (some 92), (some (90, true))⟩,
 ⟨.pick (.p 90) (.p 92) (.c (.bool false)), (some 93), none⟩]
@[simp] def eq16_14 := id q16_14.eq_1
def q16_15 : List AOper :=
  [⟨.move .look (.p 0), (some 82), none⟩,
 ⟨.move .head (.p 6), (some 83), none⟩,
 ⟨.sliceStr (.p 82) (some (.p 83)) none, (some 84), none⟩,
 ⟨.call 19 [(.p 84, false)], (some 85), none⟩,
 ⟨.move .look (.t 85), (some 81), none⟩,
 ⟨.extract 81 0, (some 86), none⟩,
 ⟨.extract 81 1, (some 87), none⟩,
 ⟨.assign (.p 86), (some 8), none⟩,
 ⟨.assign (.p 87), (some 9), none⟩]
@[simp] def eq16_15 := id q16_15.eq_1
def q16_16 : List AOper :=
  [⟨.move .take (.p 6), (some 80), none⟩,
 ⟨.assign (.p 80), (some 5), none⟩]
@[simp] def eq16_16 := id q16_16.eq_1
def q16_17 : List AOper :=
  [⟨.move .look (.p 6), (some 78), none⟩,
 ⟨.bin .add 1 true (.p 78) (.c (.int .i64 1)), (some 79), none⟩,
 ⟨.assign (.p 79), (some 6), none⟩]
@[simp] def eq16_17 := id q16_17.eq_1
def q16_18 : List AOper :=
  [⟨.move .look (.p 7), (some 56), none⟩,
 ⟨.hcall 17 [(.p 4, false), (.p 56, false)], (some 57), none⟩]
@[simp] def eq16_18 := id q16_18.eq_1
def q16_19 : List AOper :=
  [⟨.move .look (.p 7), (some 48), none⟩,
 ⟨.bin .and 1 true (.p 48) (.c (.int .u8 15)), (some 49), none⟩,
 ⟨.indexStr (.c (.str [48, 49, 50, 51, 52, 53, 54, 55, 56, 57, 97, 98, 99, 100, 101, 102])) (.p 49), (some 50), none⟩,
 ⟨.hcall 17 [(.p 4, false), (.p 50, false)], (some 51), none⟩]
@[simp] def eq16_19 := id q16_19.eq_1
def q16_20 : List AOper :=
  [⟨.move .look (.p 7), (some 44), none⟩,
 ⟨.bin .shr 1 true (.p 44) (.c (.int .u64 4)), (some 45), none⟩,
 ⟨.indexStr (.c (.str [48, 49, 50, 51, 52, 53, 54, 55, 56, 57, 97, 98, 99, 100, 101, 102])) (.p 45), (some 46), none⟩,
 ⟨.hcall 17 [(.p 4, false), (.p 46, false)], (some 47), none⟩]
@[simp] def eq16_20 := id q16_20.eq_1
def q16_21 : List AOper :=
  [⟨.bin .eql 1 true (.p 42) (.c (.int .u8 12)), (some 75), none⟩,
 ⟨.assign (.p 75), (some 74), none⟩]
@[simp] def eq16_21 := id q16_21.eq_1
def q16_22 : List AOper :=
  [⟨.bin .eql 1 true (.p 42) (.c (.int .u8 8)), (some 71), none⟩,
 ⟨.assign (.p 71), (some 70), none⟩]
@[simp] def eq16_22 := id q16_22.eq_1
def q16_23 : List AOper :=
  [⟨.bin .eql 1 true (.p 42) (.c (.int .u8 9)), (some 67), none⟩,
 ⟨.assign (.p 67), (some 66), none⟩]
@[simp] def eq16_23 := id q16_23.eq_1
def q16_24 : List AOper :=
  [⟨.bin .eql 1 true (.p 42) (.c (.int .u8 13)), (some 63), none⟩,
 ⟨.assign (.p 63), (some 62), none⟩]
@[simp] def eq16_24 := id q16_24.eq_1
def q16_25 : List AOper :=
  [⟨.bin .eql 1 true (.p 42) (.c (.int .u8 10)), (some 59), none⟩,
 ⟨.assign (.p 59), (some 58), none⟩]
@[simp] def eq16_25 := id q16_25.eq_1
def q16_26 : List AOper :=
  [⟨.bin .eql 1 true (.p 42) (.c (.int .u8 34)), (some 54), none⟩,
 ⟨.assign (.p 54), (some 52), none⟩]
@[simp] def eq16_26 := id q16_26.eq_1
def q16_27 : List AOper :=
  [⟨.bin .eql 1 true (.p 42) (.c (.int .u8 92)), (some 53), none⟩,
 ⟨.assign (.p 53), (some 52), none⟩]
@[simp] def eq16_27 := id q16_27.eq_1
def q16_28 : List AOper :=
  [⟨.move .look (.p 0), (some 37), none⟩,
 ⟨.move .head (.p 5), (some 38), none⟩,
 ⟨.move .head (.p 6), (some 39), none⟩,
 ⟨.sliceStr (.p 37) (some (.p 38)) (some (.p 39)), (some 40), none⟩,
 ⟨.hcall 18 [(.p 4, false), (.p 40, false)], (some 41), none⟩]
@[simp] def eq16_28 := id q16_28.eq_1
def q16_29 : List AOper :=
  [⟨.move .look (.p 5), (some 34), none⟩,
 ⟨.move .look (.p 6), (some 35), none⟩,
 ⟨.bin .lss 1 false (.p 34) (.p 35), (some 36), none⟩]
@[simp] def eq16_29 := id q16_29.eq_1
def q16_30 : List AOper :=
  [⟨.move .look (.p 6), (some 32), none⟩,
 ⟨.bin .add 1 true (.p 32) (.c (.int .i64 1)), (some 33), none⟩,
 ⟨.assign (.p 33), (some 6), none⟩]
@[simp] def eq16_30 := id q16_30.eq_1
def q16_31 : List AOper :=
  [⟨.move .look (.p 7), (some 20), none⟩,
 ⟨.px (.ixArr 128 1) [.c (.gl 2), .p 20], (some 21), none⟩,
 ⟨.load .look false 1 (.p 21), (some 22), none⟩,
 ⟨.move .look (.p 22), (some 23), none⟩,
 ⟨.move .look (.p 3), (some 24), (some (23, false))⟩,
 ⟨.un .not (.p 24), (some 25), (some (23, false))⟩,
 ⟨.move .look (.p 25), (some 26), (some (23, false))⟩,
 ⟨.move .look (.p 7), (some 27), (some (26, true))⟩,
 ⟨.px (.ixArr 128 1) [.c (.gl 3), .p 27], (some 28), (some (26, true))⟩,
 ⟨.load .look false 1 (.p 28), (some 29), (some (26, true))⟩,
 ⟨.pick (.p 26) (.p 29) (.c (.bool false)), (some 30), (some (23, false))⟩,
 ⟨.pick (.p 23) (.c (.bool true)) (.p 30), (some 31), none⟩]
@[simp] def eq16_31 := id q16_31.eq_1
def q16_32 : List AOper :=
  [⟨.move .look (.p 7), (some 18), none⟩,
 ⟨.bin .lss 1 true (.p 18) (.c (.int .u8 128)), (some 19), none⟩]
@[simp] def eq16_32 := id q16_32.eq_1
def q16_33 : List AOper :=
  [⟨.move .look (.p 0), (some 15), none⟩,
 ⟨.move .look (.p 6), (some 16), none⟩,
 ⟨.indexStr (.p 15) (.p 16), (some 17), none⟩,
 ⟨.assign (.p 17), (some 7), none⟩]
@[simp] def eq16_33 := id q16_33.eq_1
def q16_34 : List AOper :=
  [⟨.move .look (.p 6), (some 11), none⟩,
 ⟨.move .head (.p 0), (some 12), none⟩,
 ⟨.len true (.p 12), (some 13), none⟩,
 ⟨.bin .lss 1 false (.p 11) (.p 13), (some 14), none⟩]
@[simp] def eq16_34 := id q16_34.eq_1
def k16_0 : ACode :=
  .ops q16_0 .ret
@[simp] def xk16_0 := @xOps _ _ _ k16_0.eq_1
def k16_1 : ACode :=
  .ops [⟨.hcall 17 [(.p 4, false), (.c (.int .u8 34), false)], (some 141), none⟩] k16_0
@[simp] def xk16_1 := @xOps _ _ _ k16_1.eq_1
def k16_2 : ACode :=
  .ops q16_1 .skip
@[simp] def xk16_2 := @xOps _ _ _ k16_2.eq_1
def k16_3 : ACode :=
  .cond (.p 136) k16_2 .skip
@[simp] def xk16_3 := @xCond _ _ _ _ k16_3.eq_1
def k16_4 : ACode :=
  .seq k16_3 k16_1
@[simp] def xk16_4 := @xSeq _ _ _ k16_4.eq_1
def k16_5 : ACode :=
  .ops q16_2 k16_4
@[simp] def xk16_5 := @xOps _ _ _ k16_5.eq_1
def k16_6 : ACode :=
  .ops q16_3 .skip
@[simp] def xk16_6 := @xOps _ _ _ k16_6.eq_1
def k16_7 : ACode :=
  .ops q16_4 (.exit 1)
@[simp] def xk16_7 := @xOps _ _ _ k16_7.eq_1
def k16_8 : ACode :=
  .ops q16_5 k16_7
@[simp] def xk16_8 := @xOps _ _ _ k16_8.eq_1
def k16_9 : ACode :=
  .ops q16_6 k16_8
@[simp] def xk16_9 := @xOps _ _ _ k16_9.eq_1
def k16_10 : ACode :=
  .ops [⟨.hcall 18 [(.p 4, false), (.c (.str [92, 117, 50, 48, 50]), false)], (some 121), none⟩] k16_9
@[simp] def xk16_10 := @xOps _ _ _ k16_10.eq_1
def k16_11 : ACode :=
  .ops q16_7 .skip
@[simp] def xk16_11 := @xOps _ _ _ k16_11.eq_1
def k16_12 : ACode :=
  .cond (.p 115) k16_11 .skip
@[simp] def xk16_12 := @xCond _ _ _ _ k16_12.eq_1
def k16_13 : ACode :=
  .seq k16_12 k16_10
@[simp] def xk16_13 := @xSeq _ _ _ k16_13.eq_1
def k16_14 : ACode :=
  .ops q16_8 k16_13
@[simp] def xk16_14 := @xOps _ _ _ k16_14.eq_1
def k16_15 : ACode :=
  .cond (.p 112) k16_14 .skip
@[simp] def xk16_15 := @xCond _ _ _ _ k16_15.eq_1
def k16_16 : ACode :=
  .seq k16_15 k16_6
@[simp] def xk16_16 := @xSeq _ _ _ k16_16.eq_1
def k16_17 : ACode :=
  .ops q16_9 k16_16
@[simp] def xk16_17 := @xOps _ _ _ k16_17.eq_1
def k16_18 : ACode :=
  .ops q16_10 (.exit 1)
def k16_19 : ACode :=
  .ops q16_11 k16_18
def k16_20 : ACode :=
  .ops [⟨.hcall 18 [(.p 4, false), (.c (.str [92, 117, 102, 102, 102, 100]), false)], (some 102), none⟩] k16_19
def k16_21 : ACode :=
  .ops q16_12 .skip
def k16_22 : ACode :=
  .cond (.p 96) k16_21 .skip
def k16_23 : ACode :=
  .seq k16_22 k16_20
def k16_24 : ACode :=
  .ops q16_13 k16_23
def k16_25 : ACode :=
  .cond (.p 93) k16_24 .skip
@[simp] def xk16_25 := @xCond _ _ _ _ k16_25.eq_1
def k16_26 : ACode :=
  .seq k16_25 k16_17
@[simp] def xk16_26 := @xSeq _ _ _ k16_26.eq_1
def k16_27 : ACode :=
  .ops q16_14 k16_26
@[simp] def xk16_27 := @xOps _ _ _ k16_27.eq_1
def k16_28 : ACode :=
  .ops q16_15 k16_27
@[simp] def xk16_28 := @xOps _ _ _ k16_28.eq_1
def k16_29 : ACode :=
  .ops q16_16 (.exit 1)
@[simp] def xk16_29 := @xOps _ _ _ k16_29.eq_1
def k16_30 : ACode :=
  .ops q16_17 k16_29
@[simp] def xk16_30 := @xOps _ _ _ k16_30.eq_1
def k16_31 : ACode :=
  .ops q16_18 .skip
@[simp] def xk16_31 := @xOps _ _ _ k16_31.eq_1
def k16_32 : ACode :=
  .ops [⟨.hcall 17 [(.p 4, false), (.c (.int .u8 92), false)], (some 55), none⟩] k16_31
@[simp] def xk16_32 := @xOps _ _ _ k16_32.eq_1
def k16_33 : ACode :=
  .ops [⟨.hcall 17 [(.p 4, false), (.c (.int .u8 110), false)], (some 61), none⟩] .skip
@[simp] def xk16_33 := @xOps _ _ _ k16_33.eq_1
def k16_34 : ACode :=
  .ops [⟨.hcall 17 [(.p 4, false), (.c (.int .u8 92), false)], (some 60), none⟩] k16_33
@[simp] def xk16_34 := @xOps _ _ _ k16_34.eq_1
def k16_35 : ACode :=
  .ops [⟨.hcall 17 [(.p 4, false), (.c (.int .u8 114), false)], (some 65), none⟩] .skip
@[simp] def xk16_35 := @xOps _ _ _ k16_35.eq_1
def k16_36 : ACode :=
  .ops [⟨.hcall 17 [(.p 4, false), (.c (.int .u8 92), false)], (some 64), none⟩] k16_35
@[simp] def xk16_36 := @xOps _ _ _ k16_36.eq_1
def k16_37 : ACode :=
  .ops [⟨.hcall 17 [(.p 4, false), (.c (.int .u8 116), false)], (some 69), none⟩] .skip
@[simp] def xk16_37 := @xOps _ _ _ k16_37.eq_1
def k16_38 : ACode :=
  .ops [⟨.hcall 17 [(.p 4, false), (.c (.int .u8 92), false)], (some 68), none⟩] k16_37
@[simp] def xk16_38 := @xOps _ _ _ k16_38.eq_1
def k16_39 : ACode :=
  .ops [⟨.hcall 17 [(.p 4, false), (.c (.int .u8 98), false)], (some 73), none⟩] .skip
@[simp] def xk16_39 := @xOps _ _ _ k16_39.eq_1
def k16_40 : ACode :=
  .ops [⟨.hcall 17 [(.p 4, false), (.c (.int .u8 92), false)], (some 72), none⟩] k16_39
@[simp] def xk16_40 := @xOps _ _ _ k16_40.eq_1
def k16_41 : ACode :=
  .ops [⟨.hcall 17 [(.p 4, false), (.c (.int .u8 102), false)], (some 77), none⟩] .skip
@[simp] def xk16_41 := @xOps _ _ _ k16_41.eq_1
def k16_42 : ACode :=
  .ops [⟨.hcall 17 [(.p 4, false), (.c (.int .u8 92), false)], (some 76), none⟩] k16_41
@[simp] def xk16_42 := @xOps _ _ _ k16_42.eq_1
def k16_43 : ACode :=
  .ops q16_19 .skip
@[simp] def xk16_43 := @xOps _ _ _ k16_43.eq_1
def k16_44 : ACode :=
  .ops q16_20 k16_43
@[simp] def xk16_44 := @xOps _ _ _ k16_44.eq_1
def k16_45 : ACode :=
  .ops [⟨.hcall 18 [(.p 4, false), (.c (.str [92, 117, 48, 48]), false)], (some 43), none⟩] k16_44
@[simp] def xk16_45 := @xOps _ _ _ k16_45.eq_1
def k16_46 : ACode :=
  .cond (.p 74) k16_42 k16_45
@[simp] def xk16_46 := @xCond _ _ _ _ k16_46.eq_1
def k16_47 : ACode :=
  .ops q16_21 k16_46
@[simp] def xk16_47 := @xOps _ _ _ k16_47.eq_1
def k16_48 : ACode :=
  .cond (.p 70) k16_40 k16_47
@[simp] def xk16_48 := @xCond _ _ _ _ k16_48.eq_1
def k16_49 : ACode :=
  .ops q16_22 k16_48
@[simp] def xk16_49 := @xOps _ _ _ k16_49.eq_1
def k16_50 : ACode :=
  .cond (.p 66) k16_38 k16_49
@[simp] def xk16_50 := @xCond _ _ _ _ k16_50.eq_1
def k16_51 : ACode :=
  .ops q16_23 k16_50
@[simp] def xk16_51 := @xOps _ _ _ k16_51.eq_1
def k16_52 : ACode :=
  .cond (.p 62) k16_36 k16_51
@[simp] def xk16_52 := @xCond _ _ _ _ k16_52.eq_1
def k16_53 : ACode :=
  .ops q16_24 k16_52
@[simp] def xk16_53 := @xOps _ _ _ k16_53.eq_1
def k16_54 : ACode :=
  .cond (.p 58) k16_34 k16_53
@[simp] def xk16_54 := @xCond _ _ _ _ k16_54.eq_1
def k16_55 : ACode :=
  .ops q16_25 k16_54
@[simp] def xk16_55 := @xOps _ _ _ k16_55.eq_1
def k16_56 : ACode :=
  .cond (.p 52) k16_32 k16_55
@[simp] def xk16_56 := @xCond _ _ _ _ k16_56.eq_1
def k16_57 : ACode :=
  .ops q16_26 .skip
@[simp] def xk16_57 := @xOps _ _ _ k16_57.eq_1
def k16_58 : ACode :=
  .cond (.p 52) .skip k16_57
@[simp] def xk16_58 := @xCond _ _ _ _ k16_58.eq_1
def k16_59 : ACode :=
  .seq k16_58 k16_56
@[simp] def xk16_59 := @xSeq _ _ _ k16_59.eq_1
def k16_60 : ACode :=
  .ops q16_27 k16_59
@[simp] def xk16_60 := @xOps _ _ _ k16_60.eq_1
def k16_61 : ACode :=
  .block 2 k16_60
@[simp] def xk16_61 := @xBlock _ _ _ k16_61.eq_1
def k16_62 : ACode :=
  .seq k16_61 k16_30
@[simp] def xk16_62 := @xSeq _ _ _ k16_62.eq_1
def k16_63 : ACode :=
  .ops [⟨.move .head (.p 7), (some 42), none⟩] k16_62
@[simp] def xk16_63 := @xOps _ _ _ k16_63.eq_1
def k16_64 : ACode :=
  .ops q16_28 .skip
@[simp] def xk16_64 := @xOps _ _ _ k16_64.eq_1
def k16_65 : ACode :=
  .cond (.p 36) k16_64 .skip
@[simp] def xk16_65 := @xCond _ _ _ _ k16_65.eq_1
def k16_66 : ACode :=
  .seq k16_65 k16_63
@[simp] def xk16_66 := @xSeq _ _ _ k16_66.eq_1
def k16_67 : ACode :=
  .ops q16_29 k16_66
@[simp] def xk16_67 := @xOps _ _ _ k16_67.eq_1
def k16_68 : ACode :=
  .ops q16_30 (.exit 1)
@[simp] def xk16_68 := @xOps _ _ _ k16_68.eq_1
def k16_69 : ACode :=
  .cond (.p 31) k16_68 .skip
@[simp] def xk16_69 := @xCond _ _ _ _ k16_69.eq_1
def k16_70 : ACode :=
  .seq k16_69 k16_67
@[simp] def xk16_70 := @xSeq _ _ _ k16_70.eq_1
def k16_71 : ACode :=
  .ops q16_31 k16_70
@[simp] def xk16_71 := @xOps _ _ _ k16_71.eq_1
def k16_72 : ACode :=
  .cond (.p 19) k16_71 .skip
@[simp] def xk16_72 := @xCond _ _ _ _ k16_72.eq_1
def k16_73 : ACode :=
  .seq k16_72 k16_28
@[simp] def xk16_73 := @xSeq _ _ _ k16_73.eq_1
def k16_74 : ACode :=
  .ops q16_32 k16_73
@[simp] def xk16_74 := @xOps _ _ _ k16_74.eq_1
def k16_75 : ACode :=
  .ops q16_33 k16_74
@[simp] def xk16_75 := @xOps _ _ _ k16_75.eq_1
def k16_76 : ACode :=
  .block 1 k16_75
@[simp] def xk16_76 := @xBlock _ _ _ k16_76.eq_1
def k16_77 : ACode :=
  .cond (.p 14) .skip (.exit 0)
@[simp] def xk16_77 := @xCond _ _ _ _ k16_77.eq_1
def k16_78 : ACode :=
  .seq k16_77 k16_76
@[simp] def xk16_78 := @xSeq _ _ _ k16_78.eq_1
def k16_79 : ACode :=
  .ops q16_34 k16_78
@[simp] def xk16_79 := @xOps _ _ _ k16_79.eq_1
def lc16_0 : ACode :=
  k16_79
@[simp] def xlc16_0 := @xSame _ _ lc16_0.eq_1
def k16_81 : ACode :=
  .loop lc16_0
@[simp] def xk16_81 := @xLoop _ _ k16_81.eq_1
def k16_82 : ACode :=
  .block 0 k16_81
@[simp] def xk16_82 := @xBlock _ _ _ k16_82.eq_1
def k16_83 : ACode :=
  .seq k16_82 k16_5
@[simp] def xk16_83 := @xSeq _ _ _ k16_83.eq_1
def k16_84 : ACode :=
  .ops [⟨.assign (.c (.int .i64 0)), (some 6), none⟩] k16_83
@[simp] def xk16_84 := @xOps _ _ _ k16_84.eq_1
def k16_85 : ACode :=
  .ops [⟨.assign (.c (.int .i64 0)), (some 5), none⟩] k16_84
@[simp] def xk16_85 := @xOps _ _ _ k16_85.eq_1
def k16_86 : ACode :=
  .ops [⟨.hcall 17 [(.p 4, false), (.c (.int .u8 34), false)], (some 10), none⟩] k16_85
@[simp] def xk16_86 := @xOps _ _ _ k16_86.eq_1
def k16_87 : ACode :=
  .ops [⟨.newobj [.slice .nil 0 1 [], .int .i64 0, .int .i8 0], (some 4), none⟩] k16_86
@[simp] def xk16_87 := @xOps _ _ _ k16_87.eq_1
def k16_88 : ACode :=
  .ops [⟨.assign (.c (.bool true)), (some 3), none⟩] k16_87
@[simp] def xk16_88 := @xOps _ _ _ k16_88.eq_1
def k16_89 : ACode :=
  .ops [⟨.assign (.c (.str [])), (some 2), none⟩] k16_88
@[simp] def xk16_89 := @xOps _ _ _ k16_89.eq_1
def af16 : AFunc := ⟨143, k16_89, [.tmp 2], fun _ _ => none⟩

theorem ok16 : ∃ hs, pFunc Tryd.prog sg hs Tryd.f16 = some af16 := ⟨fun i => if i == 4 then 1 else 0, by kernel_rfl⟩
def q13_0 : List AOper :=
  [⟨.move .look (.p 0), (some 3), none⟩,
 ⟨.call 16 [(.p 3, false)], (some 4), none⟩,
 ⟨.assign (.p 4), (some 2), none⟩]
@[simp] def eq13_0 := id q13_0.eq_1
def k13_0 : ACode :=
  .ops q13_0 .ret
@[simp] def xk13_0 := @xOps _ _ _ k13_0.eq_1
def k13_1 : ACode :=
  .ops [⟨.assign (.c (.str [])), (some 2), none⟩] k13_0
@[simp] def xk13_1 := @xOps _ _ _ k13_1.eq_1
def af13 : AFunc := ⟨5, k13_1, [.tmp 2], fun _ _ => none⟩

theorem ok13 : ∃ hs, pFunc Tryd.prog sg hs Tryd.f13 = some af13 := ⟨fun i => 0, by kernel_rfl⟩
def q8_0 : List AOper :=
  [⟨.move .look (.p 0), (some 3), none⟩,
 ⟨.call 13 [(.p 3, false)], (some 4), none⟩,
 ⟨.assign (.p 4), (some 2), none⟩]
@[simp] def eq8_0 := id q8_0.eq_1
def k8_0 : ACode :=
  .ops q8_0 .ret
@[simp] def xk8_0 := @xOps _ _ _ k8_0.eq_1
def k8_1 : ACode :=
  .ops [⟨.assign (.c (.str [])), (some 2), none⟩] k8_0
@[simp] def xk8_1 := @xOps _ _ _ k8_1.eq_1
def af8 : AFunc := ⟨5, k8_1, [.tmp 2], fun _ _ => none⟩

theorem ok8 : ∃ hs, pFunc Tryd.prog sg hs Tryd.f8 = some af8 := ⟨fun i => 0, by kernel_rfl⟩
def q12_0 : List AOper :=
  [⟨.move .look (.p 0), (some 3), none⟩,
 ⟨.bin .shr 1 true (.p 3) (.c (.int .u64 4)), (some 4), none⟩,
 ⟨.indexStr (.c (.str [48, 49, 50, 51, 52, 53, 54, 55, 56, 57, 97, 98, 99, 100, 101, 102])) (.p 4), (some 5), none⟩,
 ⟨.move .look (.p 0), (some 6), none⟩,
 ⟨.bin .and 1 true (.p 6) (.c (.int .u8 15)), (some 7), none⟩,
 ⟨.indexStr (.c (.str [48, 49, 50, 51, 52, 53, 54, 55, 56, 57, 97, 98, 99, 100, 101, 102])) (.p 7), (some 8), none⟩,
 ⟨.buildSl 5 1 [.int .u8 0, .int .u8 0] [(0, 1, .p 5), (1, 1, .p 8)], (some 9), none⟩,
 ⟨.convBS (.t 9), (some 10), none⟩,
 ⟨.assign (.p 10), (some 2), none⟩]
@[simp] def eq12_0 := id q12_0.eq_1
def k12_0 : ACode :=
  .ops q12_0 .ret
@[simp] def xk12_0 := @xOps _ _ _ k12_0.eq_1
def k12_1 : ACode :=
  .ops [⟨.assign (.c (.str [])), (some 2), none⟩] k12_0
@[simp] def xk12_1 := @xOps _ _ _ k12_1.eq_1
def af12 : AFunc := ⟨11, k12_1, [.tmp 2], fun _ _ => none⟩

theorem ok12 : ∃ hs, pFunc Tryd.prog sg hs Tryd.f12 = some af12 := ⟨fun i => 0, by kernel_rfl⟩
def q7_0 : List AOper :=
  [⟨.move .take (.t 5), (some 116), none⟩,
 ⟨.buildSl 5 1 [.int .u8 0] [(0, 1, .c (.int .u8 34))], (some 117), none⟩,
 ⟨.append 5 1 1 false (.t 116) (.p 117), (some 118), none⟩,
 ⟨.convBS (.t 118), (some 119), none⟩,
 ⟨.assign (.p 119), (some 4), none⟩]
@[simp] def eq7_0 := id q7_0.eq_1
def q7_1 : List AOper :=
  [⟨.move .look (.p 6), (some 113), none⟩,
 ⟨.move .look (.p 7), (some 114), none⟩,
 ⟨.bin .add 1 false (.p 113) (.p 114), (some 115), none⟩,
 ⟨.assign (.p 115), (some 6), none⟩]
@[simp] def eq7_1 := id q7_1.eq_1
def q7_2 : List AOper :=
  [⟨.move .take (.t 5), (some 42), none⟩,
 ⟨.move .look (.p 8), (some 43), none⟩,
 ⟨.convInt .u8 (.p 43), (some 44), none⟩,
 ⟨.buildSl 5 1 [.int .u8 0, .int .u8 0] [(0, 1, .c (.int .u8 92)), (1, 1, .p 44)], (some 45), none⟩,
 ⟨.append 5 1 1 false (.t 42) (.p 45), (some 46), none⟩,
 ⟨.assign (.t 46), (some 5), none⟩]
@[simp] def eq7_2 := id q7_2.eq_1
def q7_3 : List AOper :=
  [⟨.move .take (.t 5), (some 66), none⟩,
 ⟨.move .look (.p 8), (some 67), none⟩,
 ⟨.bin .sub 1 true (.p 67) (.c (.int .i64 8)), (some 68), none⟩,
 ⟨.indexStr (.c (.str [98, 116, 110, 46, 102, 114])) (.p 68), (some 69), none⟩,
 ⟨.buildSl 5 1 [.int .u8 0, .int .u8 0] [(0, 1, .c (.int .u8 92)), (1, 1, .p 69)], (some 70), none⟩,
 ⟨.append 5 1 1 false (.t 66) (.p 70), (some 71), none⟩,
 ⟨.assign (.t 71), (some 5), none⟩]
@[simp] def eq7_3 := id q7_3.eq_1
def q7_4 : List AOper :=
  [⟨.move .take (.t 5), (some 92), none⟩,
 ⟨.move .look (.p 8), (some 93), none⟩,
 ⟨.convInt .u8 (.p 93), (some 94), none⟩,
 ⟨.call 12 [(.p 94, false)], (some 95), none⟩,
 ⟨.append 5 1 1 true (.t 92) (.p 95), (some 96), none⟩,
 ⟨.assign (.t 96), (some 5), none⟩]
@[simp] def eq7_4 := id q7_4.eq_1
def q7_5 : List AOper :=
  [⟨.move .take (.t 5), (some 90), none⟩,
 ⟨.append 5 1 1 true (.t 90) (.c (.str [92, 117, 48, 48])), (some 91), none⟩,
 ⟨.assign (.t 91), (some 5), none⟩]
@[simp] def eq7_5 := id q7_5.eq_1
def q7_6 : List AOper :=
  [⟨.move .take (.t 5), (some 106), none⟩,
 ⟨.move .look (.p 8), (some 107), none⟩,
 ⟨.bin .add 1 true (.c (.int .i64 56)) (.p 107), (some 108), none⟩,
 ⟨.bin .sub 1 true (.p 108) (.c (.int .i64 8232)), (some 109), none⟩,
 ⟨.convInt .u8 (.p 109), (some 110), none⟩,
 ⟨.buildSl 5 1 [.int .u8 0] [(0, 1, .p 110)], (some 111), none⟩,
 ⟨.append 5 1 1 false (.t 106) (.p 111), (some 112), none⟩,
 ⟨.assign (.t 112), (some 5), none⟩]
@[simp] def eq7_6 := id q7_6.eq_1
def q7_7 : List AOper :=
  [⟨.move .take (.t 5), (some 104), none⟩,
 ⟨.append 5 1 1 true (.t 104) (.c (.str [92, 117, 50, 48, 50])), (some 105), none⟩,
 ⟨.assign (.t 105), (some 5), none⟩]
@[simp] def eq7_7 := id q7_7.eq_1
def q7_8 : List AOper :=
  [⟨.move .take (.t 5), (some 27), none⟩,
 ⟨.move .look (.p 0), (some 28), none⟩,
 ⟨.move .head (.p 6), (some 29), none⟩,
 ⟨.move .look (.p 6), (some 30), none⟩,
 ⟨.move .look (.p 7), (some 31), none⟩,
 ⟨.bin .add 1 false (.p 30) (.p 31), (some 32), none⟩,
 ⟨.sliceStr (.p 28) (some (.p 29)) (some (.p 32)), (some 33), none⟩,
 ⟨.append 5 1 1 true (.t 27) (.p 33), (some 34), none⟩,
 ⟨.assign (.t 34), (some 5), none⟩]
@[simp] def eq7_8 := id q7_8.eq_1
def q7_9 : List AOper :=
  [⟨.move .head (.p 8), (some 98), none⟩,
 ⟨.bin .eql 1 true (.p 98) (.c (.int .i64 8232)), (some 99), none⟩,
 ⟨.move .look (.p 99), (some 100), none⟩,
 ⟨.move .head (.p 8), (some 101), (some (100, false))⟩,
 ⟨.bin .eql 1 true (.p 101) (.c (.int .i64 8233)), (some 102), (some (100, false))⟩,
 ⟨.pick (.p 100) (.c (.bool true)) (.p 102), (some 103), none⟩,
 ⟨.assign (.p 103), (some 97), none⟩]
@[simp] def eq7_9 := id q7_9.eq_1
def q7_10 : List AOper :=
  [⟨.move .look (.p 8), (some 73), none⟩,
 ⟨.bin .lss 1 true (.p 73) (.c (.int .i64 32)), (some 74), none⟩,
 ⟨.move .look (.p 74), (some 75), none⟩,
 ⟨.move .look (.p 1), (some 76), (some (75, false))⟩,
 ⟨.move .look (.p 76), (some 77), (some (75, false))⟩,
 ⟨.move .head (.p 8), (some 78), (some (77, true))⟩,
 ⟨.bin .eql 1 true (.p 78) (.c (.int .i64 60)), (some 79), (some (77, true))⟩,
 ⟨.move .look (.p 79), (some 80), (some (77, true))⟩,
 ⟨.move .head (.p 8), (some 81), (some (80, false))⟩,
 ⟨.bin .eql 1 true (.p 81) (.c (.int .i64 62)), (some 82), (some (80, false))⟩,
 ⟨.pick (.p 80) (.c (.bool true)) (.p 82), (some 83), (some (77, true))⟩,
 ⟨.move .look (.p 83), (some 84), (some (77, true))⟩,
 ⟨.move .head (.p 8), (some 85), (some (84, false))⟩,
 ⟨.bin .eql 1 true (.p 85) (.c (.int .i64 38)), (some 86), (some (84, false))⟩,
 ⟨.pick (.p 84) (.c (.bool true)) (.p 86), (some 87), (some (77, true))⟩,
 ⟨.pick (.p 77) (.p 87) (.c (.bool false)), (some 88), (some (75, false))⟩,
 ⟨.pick (.p 75) (.c (.bool true)) (.p 88), (some 89), none⟩,
 ⟨.assign (.p 89), (some 72), none⟩]
@[simp] def eq7_10 := id q7_10.eq_1
def q7_11 : List AOper :=
  [⟨.move .head (.p 8), (some 48), none⟩,
 ⟨.bin .eql 1 true (.p 48) (.c (.int .i64 8)), (some 49), none⟩,
 ⟨.move .look (.p 49), (some 50), none⟩,
 ⟨.move .head (.p 8), (some 51), (some (50, false))⟩,
 ⟨.bin .eql 1 true (.p 51) (.c (.int .i64 9)), (some 52), (some (50, false))⟩,
 ⟨.pick (.p 50) (.c (.bool true)) (.p 52), (some 53), none⟩,
 ⟨.move .look (.p 53), (some 54), none⟩,
 ⟨.move .head (.p 8), (some 55), (some (54, false))⟩,
 ⟨.bin .eql 1 true (.p 55) (.c (.int .i64 10)), (some 56), (some (54, false))⟩,
 ⟨.pick (.p 54) (.c (.bool true)) (.p 56), (some 57), none⟩,
 ⟨.move .look (.p 57), (some 58), none⟩,
 ⟨.move .head (.p 8), (some 59), (some (58, false))⟩,
 ⟨.bin .eql 1 true (.p 59) (.c (.int .i64 12)), (some 60), (some (58, false))⟩,
 ⟨.pick (.p 58) (.c (.bool true)) (.p 60), (some 61), none⟩,
 ⟨.move .look (.p 61), (some 62), none⟩,
 ⟨.move .head (.p 8), (some 63), (some (62, false))⟩,
 ⟨.bin .eql 1 true (.p 63) (.c (.int .i64 13)), (some 64), (some (62, false))⟩,
 ⟨.pick (.p 62) (.c (.bool true)) (.p 64), (some 65), none⟩,
 ⟨.assign (.p 65), (some 47), none⟩]
@[simp] def eq7_11 := id q7_11.eq_1
def q7_12 : List AOper :=
  [⟨.move .head (.p 8), (some 36), none⟩,
 ⟨.bin .eql 1 true (.p 36) (.c (.int .i64 34)), (some 37), none⟩,
 ⟨.move .look (.p 37), (some 38), none⟩,
 ⟨.move .head (.p 8), (some 39), (some (38, false))⟩,
 ⟨.bin .eql 1 true (.p 39) (.c (.int .i64 92)), (some 40), (some (38, false))⟩,
 ⟨.pick (.p 38) (.c (.bool true)) (.p 40), (some 41), none⟩,
 ⟨.assign (.p 41), (some 35), none⟩]
@[simp] def eq7_12 := id q7_12.eq_1
def q7_13 : List AOper :=
  [⟨.move .look (.p 0), (some 23), none⟩,
 ⟨.move .look (.p 6), (some 24), none⟩,
 ⟨.indexStr (.p 23) (.p 24), (some 25), none⟩,
 ⟨.convInt .i64 (.p 25), (some 26), none⟩,
 ⟨.assign (.c (.int .i64 1)), (some 7), none⟩,
 ⟨.assign (.p 26), (some 8), none⟩]
@[simp] def eq7_13 := id q7_13.eq_1
def q7_14 : List AOper :=
  [⟨.move .head (.p 7), (some 21), none⟩,
 ⟨.bin .eql 1 true (.p 21) (.c (.int .i64 0)), (some 22), none⟩]
@[simp] def eq7_14 := id q7_14.eq_1
def q7_15 : List AOper :=
  [⟨.move .look (.p 0), (some 15), none⟩,
 ⟨.move .head (.p 6), (some 16), none⟩,
 ⟨.sliceStr (.p 15) (some (.p 16)) none, (some 17), none⟩,
 ⟨.call 11 [(.p 17, false)], (some 18), none⟩,
 ⟨.move .look (.t 18), (some 14), none⟩,
 ⟨.extract 14 0, (some 19), none⟩,
 ⟨.extract 14 1, (some 20), none⟩,
 ⟨.assign (.p 19), (some 7), none⟩,
 ⟨.assign (.p 20), (some 8), none⟩]
@[simp] def eq7_15 := id q7_15.eq_1
def q7_16 : List AOper :=
  [⟨.move .look (.p 6), (some 10), none⟩,
 ⟨.move .head (.p 0), (some 11), none⟩,
 ⟨.len true (.p 11), (some 12), none⟩,
 ⟨.bin .lss 1 false (.p 10) (.p 12), (some 13), none⟩]
@[simp] def eq7_16 := id q7_16.eq_1
def q7_17 : List AOper :=
  [⟨.buildSl 5 1 [.int .u8 0] [(0, 1, .c (.int .u8 34))], (some 9), none⟩,
 ⟨.assign (.t 9), (some 5), none⟩]
@[simp] def eq7_17 := id q7_17.eq_1
def k7_0 : ACode :=
  .ops q7_0 .ret
@[simp] def xk7_0 := @xOps _ _ _ k7_0.eq_1
def k7_1 : ACode :=
  .ops q7_1 .skip
@[simp] def xk7_1 := @xOps _ _ _ k7_1.eq_1
def k7_2 : ACode :=
  .ops q7_2 .skip
@[simp] def xk7_2 := @xOps _ _ _ k7_2.eq_1
def k7_3 : ACode :=
  .ops q7_3 .skip
@[simp] def xk7_3 := @xOps _ _ _ k7_3.eq_1
def k7_4 : ACode :=
  .ops q7_4 .skip
@[simp] def xk7_4 := @xOps _ _ _ k7_4.eq_1
def k7_5 : ACode :=
  .ops q7_5 k7_4
@[simp] def xk7_5 := @xOps _ _ _ k7_5.eq_1
def k7_6 : ACode :=
  .ops q7_6 .skip
@[simp] def xk7_6 := @xOps _ _ _ k7_6.eq_1
def k7_7 : ACode :=
  .ops q7_7 k7_6
@[simp] def xk7_7 := @xOps _ _ _ k7_7.eq_1
def k7_8 : ACode :=
  .ops q7_8 .skip
@[simp] def xk7_8 := @xOps _ _ _ k7_8.eq_1
def k7_9 : ACode :=
  .cond (.p 97) k7_7 k7_8
@[simp] def xk7_9 := @xCond _ _ _ _ k7_9.eq_1
def k7_10 : ACode :=
  .ops q7_9 k7_9
@[simp] def xk7_10 := @xOps _ _ _ k7_10.eq_1
def k7_11 : ACode :=
  .cond (.p 72) k7_5 k7_10
@[simp] def xk7_11 := @xCond _ _ _ _ k7_11.eq_1
def k7_12 : ACode :=
  .ops q7_10 k7_11
@[simp] def xk7_12 := @xOps _ _ _ k7_12.eq_1
def k7_13 : ACode :=
  .cond (.p 47) k7_3 k7_12
@[simp] def xk7_13 := @xCond _ _ _ _ k7_13.eq_1
def k7_14 : ACode :=
  .ops q7_11 k7_13
@[simp] def xk7_14 := @xOps _ _ _ k7_14.eq_1
def k7_15 : ACode :=
  .cond (.p 35) k7_2 k7_14
@[simp] def xk7_15 := @xCond _ _ _ _ k7_15.eq_1
def k7_16 : ACode :=
  .ops q7_12 k7_15
@[simp] def xk7_16 := @xOps _ _ _ k7_16.eq_1
def k7_17 : ACode :=
  .block 2 k7_16
@[simp] def xk7_17 := @xBlock _ _ _ k7_17.eq_1
def k7_18 : ACode :=
  .seq k7_17 k7_1
@[simp] def xk7_18 := @xSeq _ _ _ k7_18.eq_1
def k7_19 : ACode :=
  .ops q7_13 .skip
def k7_20 : ACode :=
  .cond (.p 22) k7_19 .skip
@[simp] def xk7_20 := @xCond _ _ _ _ k7_20.eq_1
def k7_21 : ACode :=
  .seq k7_20 k7_18
@[simp] def xk7_21 := @xSeq _ _ _ k7_21.eq_1
def k7_22 : ACode :=
  .ops q7_14 k7_21
@[simp] def xk7_22 := @xOps _ _ _ k7_22.eq_1
def k7_23 : ACode :=
  .ops q7_15 k7_22
@[simp] def xk7_23 := @xOps _ _ _ k7_23.eq_1
def k7_24 : ACode :=
  .block 1 k7_23
@[simp] def xk7_24 := @xBlock _ _ _ k7_24.eq_1
def k7_25 : ACode :=
  .cond (.p 13) .skip (.exit 0)
@[simp] def xk7_25 := @xCond _ _ _ _ k7_25.eq_1
def k7_26 : ACode :=
  .seq k7_25 k7_24
@[simp] def xk7_26 := @xSeq _ _ _ k7_26.eq_1
def k7_27 : ACode :=
  .ops q7_16 k7_26
@[simp] def xk7_27 := @xOps _ _ _ k7_27.eq_1
def lc7_0 : ACode :=
  k7_27
@[simp] def xlc7_0 := @xSame _ _ lc7_0.eq_1
def k7_29 : ACode :=
  .loop lc7_0
@[simp] def xk7_29 := @xLoop _ _ k7_29.eq_1
def k7_30 : ACode :=
  .block 0 k7_29
@[simp] def xk7_30 := @xBlock _ _ _ k7_30.eq_1
def k7_31 : ACode :=
  .seq k7_30 k7_0
@[simp] def xk7_31 := @xSeq _ _ _ k7_31.eq_1
def k7_32 : ACode :=
  .ops [⟨.assign (.c (.int .i64 0)), (some 6), none⟩] k7_31
@[simp] def xk7_32 := @xOps _ _ _ k7_32.eq_1
def k7_33 : ACode :=
  .ops q7_17 k7_32
@[simp] def xk7_33 := @xOps _ _ _ k7_33.eq_1
def k7_34 : ACode :=
  .ops [⟨.assign (.c (.str [])), (some 4), none⟩] k7_33
@[simp] def xk7_34 := @xOps _ _ _ k7_34.eq_1
def af7 : AFunc := ⟨120, k7_34, [.tmp 4], fun _ _ => none⟩

theorem ok7 : ∃ hs, pFunc Tryd.prog sg hs Tryd.f7 = some af7 := ⟨fun i => 0, by kernel_rfl⟩
def q14_0 : List AOper :=
  [⟨.move .look (.p 1), (some 165), none⟩,
 ⟨.hcall 17 [(.p 165, false), (.c (.int .u8 34), false)], (some 166), none⟩]
@[simp] def eq14_0 := id q14_0.eq_1
def q14_1 : List AOper :=
  [⟨.move .look (.p 1), (some 160), none⟩,
 ⟨.move .look (.p 0), (some 161), none⟩,
 ⟨.move .head (.p 6), (some 162), none⟩,
 ⟨.sliceStr (.p 161) (some (.p 162)) none, (some 163), none⟩,
 ⟨.hcall 18 [(.p 160, false), (.p 163, false)], (some 164), none⟩]
@[simp] def eq14_1 := id q14_1.eq_1
def q14_2 : List AOper :=
  [⟨.move .look (.p 6), (some 156), none⟩,
 ⟨.move .head (.p 0), (some 157), none⟩,
 ⟨.len true (.p 157), (some 158), none⟩,
 ⟨.bin .lss 1 false (.p 156) (.p 158), (some 159), none⟩]
@[simp] def eq14_2 := id q14_2.eq_1
def q14_3 : List AOper :=
  [⟨.move .look (.p 7), (some 153), none⟩,
 ⟨.move .look (.p 10), (some 154), none⟩,
 ⟨.bin .add 1 false (.p 153) (.p 154), (some 155), none⟩,
 ⟨.assign (.p 155), (some 7), none⟩]
@[simp] def eq14_3 := id q14_3.eq_1
def q14_4 : List AOper :=
  [⟨.move .take (.p 7), (some 152), none⟩,
 ⟨.assign (.p 152), (some 6), none⟩]
@[simp] def eq14_4 := id q14_4.eq_1
def q14_5 : List AOper :=
  [⟨.move .look (.p 7), (some 149), none⟩,
 ⟨.move .look (.p 10), (some 150), none⟩,
 ⟨.bin .add 1 false (.p 149) (.p 150), (some 151), none⟩,
 ⟨.assign (.p 151), (some 7), none⟩]
@[simp] def eq14_5 := id q14_5.eq_1
def q14_6 : List AOper :=
  [⟨.move .look (.p 1), (some 144), none⟩,
 ⟨.move .look (.p 9), (some 145), none⟩,
 ⟨.bin .and 1 true (.p 145) (.c (.int .i32 15)), (some 146), none⟩,
 ⟨.indexStr (.c (.str [48, 49, 50, 51, 52, 53, 54, 55, 56, 57, 97, 98, 99, 100, 101, 102])) (.p 146), (some 147), none⟩,
 ⟨.hcall 17 [(.p 144, false), (.p 147, false)], (some 148), none⟩]
@[simp] def eq14_6 := id q14_6.eq_1
def q14_7 : List AOper :=
  [⟨.move .look (.p 1), (some 142), none⟩,
 ⟨.hcall 18 [(.p 142, false), (.c (.str [92, 117, 50, 48, 50]), false)], (some 143), none⟩]
@[simp] def eq14_7 := id q14_7.eq_1
def q14_8 : List AOper :=
  [⟨.move .look (.p 1), (some 136), none⟩,
 ⟨.move .look (.p 0), (some 137), none⟩,
 ⟨.move .head (.p 6), (some 138), none⟩,
 ⟨.move .head (.p 7), (some 139), none⟩,
 ⟨.sliceStr (.p 137) (some (.p 138)) (some (.p 139)), (some 140), none⟩,
 ⟨.hcall 18 [(.p 136, false), (.p 140, false)], (some 141), none⟩]
@[simp] def eq14_8 := id q14_8.eq_1
def q14_9 : List AOper :=
  [⟨.move .look (.p 6), (some 133), none⟩,
 ⟨.move .look (.p 7), (some 134), none⟩,
 ⟨.bin .lss 1 false (.p 133) (.p 134), (some 135), none⟩]
@[simp] def eq14_9 := id q14_9.eq_1
def q14_10 : List AOper :=
  [⟨.move .head (.p 9), (some 127), none⟩,
 ⟨.bin .eql 1 true (.p 127) (.c (.int .i32 8232)), (some 128), none⟩,
 ⟨.move .look (.p 128), (some 129), none⟩,
 ⟨.move .head (.p 9), (some 130), (some (129, false))⟩,
 ⟨.bin .eql 1 true (.p 130) (.c (.int .i32 8233)), (some 131), (some (129, false))⟩,
 ⟨.pick (.p 129) (.c (.bool true)) (.p 131), (some 132), none⟩]
@[simp] def eq14_10 := id q14_10.eq_1
def q14_11 : List AOper :=
  [⟨.move .take (.p 7), (some 126), none⟩,
 ⟨.assign (.p 126), (some 6), none⟩]
@[simp] def eq14_11 := id q14_11.eq_1
def q14_12 : List AOper :=
  [⟨.move .look (.p 7), (some 123), none⟩,
 ⟨.move .look (.p 10), (some 124), none⟩,
 ⟨.bin .add 1 false (.p 123) (.p 124), (some 125), none⟩,
 ⟨.assign (.p 125), (some 7), none⟩]
@[simp] def eq14_12 := id q14_12.eq_1
def q14_13 : List AOper :=
  [⟨.move .look (.p 1), (some 121), none⟩,
 ⟨.hcall 18 [(.p 121, false), (.c (.str [92, 117, 102, 102, 102, 100]), false)], (some 122), none⟩]
@[simp] def eq14_13 := id q14_13.eq_1
def q14_14 : List AOper :=
  [⟨.move .look (.p 1), (some 115), none⟩,
 ⟨.move .look (.p 0), (some 116), none⟩,
 ⟨.move .head (.p 6), (some 117), none⟩,
 ⟨.move .head (.p 7), (some 118), none⟩,
 ⟨.sliceStr (.p 116) (some (.p 117)) (some (.p 118)), (some 119), none⟩,
 ⟨.hcall 18 [(.p 115, false), (.p 119, false)], (some 120), none⟩]
@[simp] def eq14_14 := id q14_14.eq_1
def q14_15 : List AOper :=
  [⟨.move .look (.p 6), (some 112), none⟩,
 ⟨.move .look (.p 7), (some 113), none⟩,
 ⟨.bin .lss 1 false (.p 112) (.p 113), (some 114), none⟩]
@[simp] def eq14_15 := id q14_15.eq_1
def q14_16 : List AOper :=
  [⟨.move .head (.p 9), (some 106), none⟩,
 ⟨.bin .eql 1 true (.p 106) (.c (.int .i32 65533)), (some 107), none⟩,
 ⟨.move .look (.p 107), (some 108), none⟩,
 ⟨.move .head (.p 10), (some 109), (some (108, true))⟩,
 ⟨.bin .eql 1 true (.p 109) (.c (.int .i64 1)), (some 110), (some (108, true))⟩,
 ⟨.pick (.p 108) (.p 110) (.c (.bool false)), (some 111), none⟩]
@[simp] def eq14_16 := id q14_16.eq_1
def q14_17 : List AOper :=
  [⟨.move .look (.p 0), (some 100), none⟩,
 ⟨.move .head (.p 7), (some 101), none⟩,
 ⟨.sliceStr (.p 100) (some (.p 101)) none, (some 102), none⟩,
 ⟨.call 19 [(.p 102, false)], (some 103), none⟩,
 ⟨.move .look (.t 103), (some 99), none⟩,
 ⟨.extract 99 0, (some 104), none⟩,
 ⟨.extract 99 1, (some 105), none⟩,
 ⟨.assign (.p 104), (some 9), none⟩,
 ⟨.assign (.p 105), (some 10), none⟩]
@[simp] def eq14_17 := id q14_17.eq_1
def q14_18 : List AOper :=
  [⟨.move .take (.p 7), (some 98), none⟩,
 ⟨.assign (.p 98), (some 6), none⟩]
@[simp] def eq14_18 := id q14_18.eq_1
def q14_19 : List AOper :=
  [⟨.move .look (.p 7), (some 96), none⟩,
 ⟨.bin .add 1 true (.p 96) (.c (.int .i64 1)), (some 97), none⟩,
 ⟨.assign (.p 97), (some 7), none⟩]
@[simp] def eq14_19 := id q14_19.eq_1
def q14_20 : List AOper :=
  [⟨.move .look (.p 1), (some 63), none⟩,
 ⟨.move .look (.p 8), (some 64), none⟩,
 ⟨.hcall 17 [(.p 63, false), (.p 64, false)], (some 65), none⟩]
@[simp] def eq14_20 := id q14_20.eq_1
def q14_21 : List AOper :=
  [⟨.move .look (.p 1), (some 61), none⟩,
 ⟨.hcall 17 [(.p 61, false), (.c (.int .u8 92), false)], (some 62), none⟩]
@[simp] def eq14_21 := id q14_21.eq_1
def q14_22 : List AOper :=
  [⟨.move .look (.p 1), (some 70), none⟩,
 ⟨.hcall 17 [(.p 70, false), (.c (.int .u8 110), false)], (some 71), none⟩]
@[simp] def eq14_22 := id q14_22.eq_1
def q14_23 : List AOper :=
  [⟨.move .look (.p 1), (some 68), none⟩,
 ⟨.hcall 17 [(.p 68, false), (.c (.int .u8 92), false)], (some 69), none⟩]
@[simp] def eq14_23 := id q14_23.eq_1
def q14_24 : List AOper :=
  [⟨.move .look (.p 1), (some 76), none⟩,
 ⟨.hcall 17 [(.p 76, false), (.c (.int .u8 114), false)], (some 77), none⟩]
@[simp] def eq14_24 := id q14_24.eq_1
def q14_25 : List AOper :=
  [⟨.move .look (.p 1), (some 74), none⟩,
 ⟨.hcall 17 [(.p 74, false), (.c (.int .u8 92), false)], (some 75), none⟩]
@[simp] def eq14_25 := id q14_25.eq_1
def q14_26 : List AOper :=
  [⟨.move .look (.p 1), (some 82), none⟩,
 ⟨.hcall 17 [(.p 82, false), (.c (.int .u8 116), false)], (some 83), none⟩]
@[simp] def eq14_26 := id q14_26.eq_1
def q14_27 : List AOper :=
  [⟨.move .look (.p 1), (some 80), none⟩,
 ⟨.hcall 17 [(.p 80, false), (.c (.int .u8 92), false)], (some 81), none⟩]
@[simp] def eq14_27 := id q14_27.eq_1
def q14_28 : List AOper :=
  [⟨.move .look (.p 1), (some 88), none⟩,
 ⟨.hcall 17 [(.p 88, false), (.c (.int .u8 98), false)], (some 89), none⟩]
@[simp] def eq14_28 := id q14_28.eq_1
def q14_29 : List AOper :=
  [⟨.move .look (.p 1), (some 86), none⟩,
 ⟨.hcall 17 [(.p 86, false), (.c (.int .u8 92), false)], (some 87), none⟩]
@[simp] def eq14_29 := id q14_29.eq_1
def q14_30 : List AOper :=
  [⟨.move .look (.p 1), (some 94), none⟩,
 ⟨.hcall 17 [(.p 94, false), (.c (.int .u8 102), false)], (some 95), none⟩]
@[simp] def eq14_30 := id q14_30.eq_1
def q14_31 : List AOper :=
  [⟨.move .look (.p 1), (some 92), none⟩,
 ⟨.hcall 17 [(.p 92, false), (.c (.int .u8 92), false)], (some 93), none⟩]
@[simp] def eq14_31 := id q14_31.eq_1
def q14_32 : List AOper :=
  [⟨.move .look (.p 1), (some 53), none⟩,
 ⟨.move .look (.p 8), (some 54), none⟩,
 ⟨.bin .and 1 true (.p 54) (.c (.int .u8 15)), (some 55), none⟩,
 ⟨.indexStr (.c (.str [48, 49, 50, 51, 52, 53, 54, 55, 56, 57, 97, 98, 99, 100, 101, 102])) (.p 55), (some 56), none⟩,
 ⟨.hcall 17 [(.p 53, false), (.p 56, false)], (some 57), none⟩]
@[simp] def eq14_32 := id q14_32.eq_1
def q14_33 : List AOper :=
  [⟨.move .look (.p 1), (some 48), none⟩,
 ⟨.move .look (.p 8), (some 49), none⟩,
 ⟨.bin .shr 1 true (.p 49) (.c (.int .u64 4)), (some 50), none⟩,
 ⟨.indexStr (.c (.str [48, 49, 50, 51, 52, 53, 54, 55, 56, 57, 97, 98, 99, 100, 101, 102])) (.p 50), (some 51), none⟩,
 ⟨.hcall 17 [(.p 48, false), (.p 51, false)], (some 52), none⟩]
@[simp] def eq14_33 := id q14_33.eq_1
def q14_34 : List AOper :=
  [⟨.move .look (.p 1), (some 46), none⟩,
 ⟨.hcall 18 [(.p 46, false), (.c (.str [92, 117, 48, 48]), false)], (some 47), none⟩]
@[simp] def eq14_34 := id q14_34.eq_1
def q14_35 : List AOper :=
  [⟨.bin .eql 1 true (.p 45) (.c (.int .u8 12)), (some 91), none⟩,
 ⟨.assign (.p 91), (some 90), none⟩]
@[simp] def eq14_35 := id q14_35.eq_1
def q14_36 : List AOper :=
  [⟨.bin .eql 1 true (.p 45) (.c (.int .u8 8)), (some 85), none⟩,
 ⟨.assign (.p 85), (some 84), none⟩]
@[simp] def eq14_36 := id q14_36.eq_1
def q14_37 : List AOper :=
  [⟨.bin .eql 1 true (.p 45) (.c (.int .u8 9)), (some 79), none⟩,
 ⟨.assign (.p 79), (some 78), none⟩]
@[simp] def eq14_37 := id q14_37.eq_1
def q14_38 : List AOper :=
  [⟨.bin .eql 1 true (.p 45) (.c (.int .u8 13)), (some 73), none⟩,
 ⟨.assign (.p 73), (some 72), none⟩]
@[simp] def eq14_38 := id q14_38.eq_1
def q14_39 : List AOper :=
  [⟨.bin .eql 1 true (.p 45) (.c (.int .u8 10)), (some 67), none⟩,
 ⟨.assign (.p 67), (some 66), none⟩]
@[simp] def eq14_39 := id q14_39.eq_1
def q14_40 : List AOper :=
  [⟨.bin .eql 1 true (.p 45) (.c (.int .u8 34)), (some 60), none⟩,
 ⟨.assign (.p 60), (some 58), none⟩]
@[simp] def eq14_40 := id q14_40.eq_1
def q14_41 : List AOper :=
  [⟨.bin .eql 1 true (.p 45) (.c (.int .u8 92)), (some 59), none⟩,
 ⟨.assign (.p 59), (some 58), none⟩]
@[simp] def eq14_41 := id q14_41.eq_1
def q14_42 : List AOper :=
  [⟨.move .look (.p 1), (some 39), none⟩,
 ⟨.move .look (.p 0), (some 40), none⟩,
 ⟨.move .head (.p 6), (some 41), none⟩,
 ⟨.move .head (.p 7), (some 42), none⟩,
 ⟨.sliceStr (.p 40) (some (.p 41)) (some (.p 42)), (some 43), none⟩,
 ⟨.hcall 18 [(.p 39, false), (.p 43, false)], (some 44), none⟩]
@[simp] def eq14_42 := id q14_42.eq_1
def q14_43 : List AOper :=
  [⟨.move .look (.p 6), (some 36), none⟩,
 ⟨.move .look (.p 7), (some 37), none⟩,
 ⟨.bin .lss 1 false (.p 36) (.p 37), (some 38), none⟩]
@[simp] def eq14_43 := id q14_43.eq_1
def q14_44 : List AOper :=
  [⟨.move .look (.p 7), (some 34), none⟩,
 ⟨.bin .add 1 true (.p 34) (.c (.int .i64 1)), (some 35), none⟩,
 ⟨.assign (.p 35), (some 7), none⟩]
@[simp] def eq14_44 := id q14_44.eq_1
def q14_45 : List AOper :=
  [⟨.move .look (.p 8), (some 22), none⟩,
 ⟨.px (.ixArr 128 1) [.c (.gl 0), .p 22], (some 23), none⟩,
 ⟨.load .look false 1 (.p 23), (some 24), none⟩,
 ⟨.move .look (.p 24), (some 25), none⟩,
 ⟨.move .look (.p 2), (some 26), (some (25, false))⟩,
 ⟨.un .not (.p 26), (some 27), (some (25, false))⟩,
 ⟨.move .look (.p 27), (some 28), (some (25, false))⟩,
 ⟨.move .look (.p 8), (some 29), (some (28, true))⟩,
 ⟨.px (.ixArr 128 1) [.c (.gl 1), .p 29], (some 30), (some (28, true))⟩,
 ⟨.load .look false 1 (.p 30), (some 31), (some (28, true))⟩,
 ⟨.pick (.p 28) (.p 31) (.c (.bool false)), (some 32), (some (25, false))⟩,
 ⟨.pick (.p 25) (.c (.bool true)) (.p 32), (some 33), none⟩]
@[simp] def eq14_45 := id q14_45.eq_1
def q14_46 : List AOper :=
  [⟨.move .look (.p 8), (some 20), none⟩,
 ⟨.bin .lss 1 true (.p 20) (.c (.int .u8 128)), (some 21), none⟩]
@[simp] def eq14_46 := id q14_46.eq_1
def q14_47 : List AOper :=
  [⟨.move .look (.p 0), (some 17), none⟩,
 ⟨.move .look (.p 7), (some 18), none⟩,
 ⟨.indexStr (.p 17) (.p 18), (some 19), none⟩,
 ⟨.assign (.p 19), (some 8), none⟩]
@[simp] def eq14_47 := id q14_47.eq_1
def q14_48 : List AOper :=
  [⟨.move .look (.p 7), (some 13), none⟩,
 ⟨.move .head (.p 0), (some 14), none⟩,
 ⟨.len true (.p 14), (some 15), none⟩,
 ⟨.bin .lss 1 false (.p 13) (.p 15), (some 16), none⟩]
@[simp] def eq14_48 := id q14_48.eq_1
def q14_49 : List AOper :=
  [⟨.move .look (.p 1), (some 11), none⟩,
 ⟨.hcall 17 [(.p 11, false), (.c (.int .u8 34), false)], (some 12), none⟩]
@[simp] def eq14_49 := id q14_49.eq_1
def k14_0 : ACode :=
  .ops q14_0 .ret
@[simp] def xk14_0 := @xOps _ _ _ k14_0.eq_1
def k14_1 : ACode :=
  .ops q14_1 .skip
@[simp] def xk14_1 := @xOps _ _ _ k14_1.eq_1
def k14_2 : ACode :=
  .cond (.p 159) k14_1 .skip
@[simp] def xk14_2 := @xCond _ _ _ _ k14_2.eq_1
def k14_3 : ACode :=
  .seq k14_2 k14_0
@[simp] def xk14_3 := @xSeq _ _ _ k14_3.eq_1
def k14_4 : ACode :=
  .ops q14_2 k14_3
@[simp] def xk14_4 := @xOps _ _ _ k14_4.eq_1
def k14_5 : ACode :=
  .ops q14_3 .skip
@[simp] def xk14_5 := @xOps _ _ _ k14_5.eq_1
def k14_6 : ACode :=
  .ops q14_4 (.exit 1)
@[simp] def xk14_6 := @xOps _ _ _ k14_6.eq_1
def k14_7 : ACode :=
  .ops q14_5 k14_6
@[simp] def xk14_7 := @xOps _ _ _ k14_7.eq_1
def k14_8 : ACode :=
  .ops q14_6 k14_7
@[simp] def xk14_8 := @xOps _ _ _ k14_8.eq_1
def k14_9 : ACode :=
  .ops q14_7 k14_8
@[simp] def xk14_9 := @xOps _ _ _ k14_9.eq_1
def k14_10 : ACode :=
  .ops q14_8 .skip
@[simp] def xk14_10 := @xOps _ _ _ k14_10.eq_1
def k14_11 : ACode :=
  .cond (.p 135) k14_10 .skip
@[simp] def xk14_11 := @xCond _ _ _ _ k14_11.eq_1
def k14_12 : ACode :=
  .seq k14_11 k14_9
@[simp] def xk14_12 := @xSeq _ _ _ k14_12.eq_1
def k14_13 : ACode :=
  .ops q14_9 k14_12
@[simp] def xk14_13 := @xOps _ _ _ k14_13.eq_1
def k14_14 : ACode :=
  .cond (.p 132) k14_13 .skip
@[simp] def xk14_14 := @xCond _ _ _ _ k14_14.eq_1
def k14_15 : ACode :=
  .seq k14_14 k14_5
@[simp] def xk14_15 := @xSeq _ _ _ k14_15.eq_1
def k14_16 : ACode :=
  .ops q14_10 k14_15
@[simp] def xk14_16 := @xOps _ _ _ k14_16.eq_1
def k14_17 : ACode :=
  .ops q14_11 (.exit 1)
def k14_18 : ACode :=
  .ops q14_12 k14_17
def k14_19 : ACode :=
  .ops q14_13 k14_18
def k14_20 : ACode :=
  .ops q14_14 .skip
def k14_21 : ACode :=
  .cond (.p 114) k14_20 .skip
def k14_22 : ACode :=
  .seq k14_21 k14_19
def k14_23 : ACode :=
  .ops q14_15 k14_22
def k14_24 : ACode :=
  .cond (.p 111) k14_23 .skip
@[simp] def xk14_24 := @xCond _ _ _ _ k14_24.eq_1
def k14_25 : ACode :=
  .seq k14_24 k14_16
@[simp] def xk14_25 := @xSeq _ _ _ k14_25.eq_1
def k14_26 : ACode :=
  .ops q14_16 k14_25
@[simp] def xk14_26 := @xOps _ _ _ k14_26.eq_1
def k14_27 : ACode :=
  .ops q14_17 k14_26
@[simp] def xk14_27 := @xOps _ _ _ k14_27.eq_1
def k14_28 : ACode :=
  .ops q14_18 (.exit 1)
@[simp] def xk14_28 := @xOps _ _ _ k14_28.eq_1
def k14_29 : ACode :=
  .ops q14_19 k14_28
@[simp] def xk14_29 := @xOps _ _ _ k14_29.eq_1
def k14_30 : ACode :=
  .ops q14_20 .skip
@[simp] def xk14_30 := @xOps _ _ _ k14_30.eq_1
def k14_31 : ACode :=
  .ops q14_21 k14_30
@[simp] def xk14_31 := @xOps _ _ _ k14_31.eq_1
def k14_32 : ACode :=
  .ops q14_22 .skip
@[simp] def xk14_32 := @xOps _ _ _ k14_32.eq_1
def k14_33 : ACode :=
  .ops q14_23 k14_32
@[simp] def xk14_33 := @xOps _ _ _ k14_33.eq_1
def k14_34 : ACode :=
  .ops q14_24 .skip
@[simp] def xk14_34 := @xOps _ _ _ k14_34.eq_1
def k14_35 : ACode :=
  .ops q14_25 k14_34
@[simp] def xk14_35 := @xOps _ _ _ k14_35.eq_1
def k14_36 : ACode :=
  .ops q14_26 .skip
@[simp] def xk14_36 := @xOps _ _ _ k14_36.eq_1
def k14_37 : ACode :=
  .ops q14_27 k14_36
@[simp] def xk14_37 := @xOps _ _ _ k14_37.eq_1
def k14_38 : ACode :=
  .ops q14_28 .skip
@[simp] def xk14_38 := @xOps _ _ _ k14_38.eq_1
def k14_39 : ACode :=
  .ops q14_29 k14_38
@[simp] def xk14_39 := @xOps _ _ _ k14_39.eq_1
def k14_40 : ACode :=
  .ops q14_30 .skip
@[simp] def xk14_40 := @xOps _ _ _ k14_40.eq_1
def k14_41 : ACode :=
  .ops q14_31 k14_40
@[simp] def xk14_41 := @xOps _ _ _ k14_41.eq_1
def k14_42 : ACode :=
  .ops q14_32 .skip
@[simp] def xk14_42 := @xOps _ _ _ k14_42.eq_1
def k14_43 : ACode :=
  .ops q14_33 k14_42
@[simp] def xk14_43 := @xOps _ _ _ k14_43.eq_1
def k14_44 : ACode :=
  .ops q14_34 k14_43
@[simp] def xk14_44 := @xOps _ _ _ k14_44.eq_1
def k14_45 : ACode :=
  .cond (.p 90) k14_41 k14_44
@[simp] def xk14_45 := @xCond _ _ _ _ k14_45.eq_1
def k14_46 : ACode :=
  .ops q14_35 k14_45
@[simp] def xk14_46 := @xOps _ _ _ k14_46.eq_1
def k14_47 : ACode :=
  .cond (.p 84) k14_39 k14_46
@[simp] def xk14_47 := @xCond _ _ _ _ k14_47.eq_1
def k14_48 : ACode :=
  .ops q14_36 k14_47
@[simp] def xk14_48 := @xOps _ _ _ k14_48.eq_1
def k14_49 : ACode :=
  .cond (.p 78) k14_37 k14_48
@[simp] def xk14_49 := @xCond _ _ _ _ k14_49.eq_1
def k14_50 : ACode :=
  .ops q14_37 k14_49
@[simp] def xk14_50 := @xOps _ _ _ k14_50.eq_1
def k14_51 : ACode :=
  .cond (.p 72) k14_35 k14_50
@[simp] def xk14_51 := @xCond _ _ _ _ k14_51.eq_1
def k14_52 : ACode :=
  .ops q14_38 k14_51
@[simp] def xk14_52 := @xOps _ _ _ k14_52.eq_1
def k14_53 : ACode :=
  .cond (.p 66) k14_33 k14_52
@[simp] def xk14_53 := @xCond _ _ _ _ k14_53.eq_1
def k14_54 : ACode :=
  .ops q14_39 k14_53
@[simp] def xk14_54 := @xOps _ _ _ k14_54.eq_1
def k14_55 : ACode :=
  .cond (.p 58) k14_31 k14_54
@[simp] def xk14_55 := @xCond _ _ _ _ k14_55.eq_1
def k14_56 : ACode :=
  .ops q14_40 .skip
@[simp] def xk14_56 := @xOps _ _ _ k14_56.eq_1
def k14_57 : ACode :=
  .cond (.p 58) .skip k14_56
@[simp] def xk14_57 := @xCond _ _ _ _ k14_57.eq_1
def k14_58 : ACode :=
  .seq k14_57 k14_55
@[simp] def xk14_58 := @xSeq _ _ _ k14_58.eq_1
def k14_59 : ACode :=
  .ops q14_41 k14_58
@[simp] def xk14_59 := @xOps _ _ _ k14_59.eq_1
def k14_60 : ACode :=
  .block 2 k14_59
@[simp] def xk14_60 := @xBlock _ _ _ k14_60.eq_1
def k14_61 : ACode :=
  .seq k14_60 k14_29
@[simp] def xk14_61 := @xSeq _ _ _ k14_61.eq_1
def k14_62 : ACode :=
  .ops [⟨.move .head (.p 8), (some 45), none⟩] k14_61
@[simp] def xk14_62 := @xOps _ _ _ k14_62.eq_1
def k14_63 : ACode :=
  .ops q14_42 .skip
@[simp] def xk14_63 := @xOps _ _ _ k14_63.eq_1
def k14_64 : ACode :=
  .cond (.p 38) k14_63 .skip
@[simp] def xk14_64 := @xCond _ _ _ _ k14_64.eq_1
def k14_65 : ACode :=
  .seq k14_64 k14_62
@[simp] def xk14_65 := @xSeq _ _ _ k14_65.eq_1
def k14_66 : ACode :=
  .ops q14_43 k14_65
@[simp] def xk14_66 := @xOps _ _ _ k14_66.eq_1
def k14_67 : ACode :=
  .ops q14_44 (.exit 1)
@[simp] def xk14_67 := @xOps _ _ _ k14_67.eq_1
def k14_68 : ACode :=
  .cond (.p 33) k14_67 .skip
@[simp] def xk14_68 := @xCond _ _ _ _ k14_68.eq_1
def k14_69 : ACode :=
  .seq k14_68 k14_66
@[simp] def xk14_69 := @xSeq _ _ _ k14_69.eq_1
def k14_70 : ACode :=
  .ops q14_45 k14_69
@[simp] def xk14_70 := @xOps _ _ _ k14_70.eq_1
def k14_71 : ACode :=
  .cond (.p 21) k14_70 .skip
@[simp] def xk14_71 := @xCond _ _ _ _ k14_71.eq_1
def k14_72 : ACode :=
  .seq k14_71 k14_27
@[simp] def xk14_72 := @xSeq _ _ _ k14_72.eq_1
def k14_73 : ACode :=
  .ops q14_46 k14_72
@[simp] def xk14_73 := @xOps _ _ _ k14_73.eq_1
def k14_74 : ACode :=
  .ops q14_47 k14_73
@[simp] def xk14_74 := @xOps _ _ _ k14_74.eq_1
def k14_75 : ACode :=
  .block 1 k14_74
@[simp] def xk14_75 := @xBlock _ _ _ k14_75.eq_1
def k14_76 : ACode :=
  .cond (.p 16) .skip (.exit 0)
@[simp] def xk14_76 := @xCond _ _ _ _ k14_76.eq_1
def k14_77 : ACode :=
  .seq k14_76 k14_75
@[simp] def xk14_77 := @xSeq _ _ _ k14_77.eq_1
def k14_78 : ACode :=
  .ops q14_48 k14_77
@[simp] def xk14_78 := @xOps _ _ _ k14_78.eq_1
def lc14_0 : ACode :=
  k14_78
@[simp] def xlc14_0 := @xSame _ _ lc14_0.eq_1
def k14_80 : ACode :=
  .loop lc14_0
@[simp] def xk14_80 := @xLoop _ _ k14_80.eq_1
def k14_81 : ACode :=
  .block 0 k14_80
@[simp] def xk14_81 := @xBlock _ _ _ k14_81.eq_1
def k14_82 : ACode :=
  .seq k14_81 k14_4
@[simp] def xk14_82 := @xSeq _ _ _ k14_82.eq_1
def k14_83 : ACode :=
  .ops [⟨.assign (.c (.int .i64 0)), (some 7), none⟩] k14_82
@[simp] def xk14_83 := @xOps _ _ _ k14_83.eq_1
def k14_84 : ACode :=
  .ops [⟨.assign (.c (.int .i64 0)), (some 6), none⟩] k14_83
@[simp] def xk14_84 := @xOps _ _ _ k14_84.eq_1
def k14_85 : ACode :=
  .ops q14_49 k14_84
@[simp] def xk14_85 := @xOps _ _ _ k14_85.eq_1
def af14 : AFunc := ⟨167, k14_85, [], fun _ _ => none⟩

theorem ok14 : ∃ hs, pFunc Tryd.prog sg hs Tryd.f14 = some af14 := ⟨fun i => 0, by kernel_rfl⟩
def q10_0 : List AOper :=
  [⟨.hcall 15 [(.p 5, false)], (some 9), none⟩,
 ⟨.assign (.p 9), (some 4), none⟩]
@[simp] def eq10_0 := id q10_0.eq_1
def q10_1 : List AOper :=
  [⟨.move .look (.p 0), (some 6), none⟩,
 ⟨.move .look (.p 1), (some 7), none⟩,
 ⟨.hcall 14 [(.p 6, false), (.p 5, false), (.p 7, false)], (some 8), none⟩]
@[simp] def eq10_1 := id q10_1.eq_1
def k10_0 : ACode :=
  .ops q10_0 .ret
@[simp] def xk10_0 := @xOps _ _ _ k10_0.eq_1
def k10_1 : ACode :=
  .ops q10_1 k10_0
@[simp] def xk10_1 := @xOps _ _ _ k10_1.eq_1
def k10_2 : ACode :=
  .ops [⟨.newobj [.slice .nil 0 1 [], .int .i64 0, .int .i8 0], (some 5), none⟩] k10_1
@[simp] def xk10_2 := @xOps _ _ _ k10_2.eq_1
def k10_3 : ACode :=
  .ops [⟨.assign (.c (.str [])), (some 4), none⟩] k10_2
@[simp] def xk10_3 := @xOps _ _ _ k10_3.eq_1
def af10 : AFunc := ⟨10, k10_3, [.tmp 4], fun _ _ => none⟩

theorem ok10 : ∃ hs, pFunc Tryd.prog sg hs Tryd.f10 = some af10 := ⟨fun i => if i == 5 then 1 else 0, by kernel_rfl⟩
def q6_0 : List AOper :=
  [⟨.move .look (.p 0), (some 5), none⟩,
 ⟨.move .look (.p 1), (some 6), none⟩,
 ⟨.call 10 [(.p 5, false), (.p 6, false)], (some 7), none⟩,
 ⟨.assign (.p 7), (some 4), none⟩]
@[simp] def eq6_0 := id q6_0.eq_1
def k6_0 : ACode :=
  .ops q6_0 .ret
@[simp] def xk6_0 := @xOps _ _ _ k6_0.eq_1
def k6_1 : ACode :=
  .ops [⟨.assign (.c (.str [])), (some 4), none⟩] k6_0
@[simp] def xk6_1 := @xOps _ _ _ k6_1.eq_1
def af6 : AFunc := ⟨8, k6_1, [.tmp 4], fun _ _ => none⟩

theorem ok6 : ∃ hs, pFunc Tryd.prog sg hs Tryd.f6 = some af6 := ⟨fun i => 0, by kernel_rfl⟩
def q4_0 : List AOper :=
  [⟨.move .look (.p 0), (some 6), none⟩,
 ⟨.call 5 [(.p 6, false)], (some 7), none⟩,
 ⟨.un .not (.p 7), (some 8), none⟩,
 ⟨.move .look (.p 8), (some 9), none⟩,
 ⟨.move .look (.p 0), (some 10), (some (9, false))⟩,
 ⟨.call 8 [(.p 10, false)], (some 11), (some (9, false))⟩,
 ⟨.move .look (.p 0), (some 12), (some (9, false))⟩,
 ⟨.call 7 [(.p 12, false), (.c (.bool true), false)], (some 13), (some (9, false))⟩,
 ⟨.bin .eql 2 false (.p 11) (.p 13), (some 14), (some (9, false))⟩,
 ⟨.move .look (.p 14), (some 15), (some (9, false))⟩,
 ⟨.move .look (.p 0), (some 16), (some (15, true))⟩,
 ⟨.call 6 [(.p 16, false), (.c (.bool true), false)], (some 17), (some (15, true))⟩,
 ⟨.move .look (.p 0), (some 18), (some (15, true))⟩,
 ⟨.call 8 [(.p 18, false)], (some 19), (some (15, true))⟩,
 ⟨.bin .eql 2 false (.p 17) (.p 19), (some 20), (some (15, true))⟩,
 ⟨.pick (.p 15) (.p 20) (.c (.bool false)), (some 21), (some (9, false))⟩,
 ⟨.pick (.p 9) (.c (.bool true)) (.p 21), (some 22), none⟩,
 ⟨.assign (.p 22), (some 2), none⟩]
@[simp] def eq4_0 := id q4_0.eq_1
def q4_1 : List AOper :=
  [⟨.move .head (.p 0), (some 3), none⟩,
 ⟨.len true (.p 3), (some 4), none⟩,
 ⟨.bin .gtr 1 true (.p 4) (.c (.int .i64 2147483647)), (some 5), none⟩]
@[simp] def eq4_1 := id q4_1.eq_1
def k4_0 : ACode :=
  .ops q4_0 .ret
@[simp] def xk4_0 := @xOps _ _ _ k4_0.eq_1
def k4_1 : ACode :=
  .ops [⟨.assign (.c (.bool true)), (some 2), none⟩] .ret
@[simp] def xk4_1 := @xOps _ _ _ k4_1.eq_1
def k4_2 : ACode :=
  .cond (.p 5) k4_1 .skip
@[simp] def xk4_2 := @xCond _ _ _ _ k4_2.eq_1
def k4_3 : ACode :=
  .seq k4_2 k4_0
@[simp] def xk4_3 := @xSeq _ _ _ k4_3.eq_1
def k4_4 : ACode :=
  .ops q4_1 k4_3
@[simp] def xk4_4 := @xOps _ _ _ k4_4.eq_1
def k4_5 : ACode :=
  .ops [⟨.assign (.c (.bool false)), (some 2), none⟩] k4_4
@[simp] def xk4_5 := @xOps _ _ _ k4_5.eq_1
def af4 : AFunc := ⟨23, k4_5, [.tmp 2], fun _ _ => none⟩

theorem ok4 : ∃ hs, pFunc Tryd.prog sg hs Tryd.f4 = some af4 := ⟨fun i => 0, by kernel_rfl⟩
def q3_0 : List AOper :=
  [⟨.move .look (.p 0), (some 8), none⟩,
 ⟨.call 5 [(.p 8, false)], (some 9), none⟩,
 ⟨.un .not (.p 9), (some 10), none⟩,
 ⟨.move .look (.p 10), (some 11), none⟩,
 ⟨.move .look (.p 0), (some 12), (some (11, false))⟩,
 ⟨.move .look (.p 1), (some 13), (some (11, false))⟩,
 ⟨.call 6 [(.p 12, false), (.p 13, false)], (some 14), (some (11, false))⟩,
 ⟨.move .look (.p 0), (some 15), (some (11, false))⟩,
 ⟨.move .look (.p 1), (some 16), (some (11, false))⟩,
 ⟨.call 7 [(.p 15, false), (.p 16, false)], (some 17), (some (11, false))⟩,
 ⟨.bin .eql 2 false (.p 14) (.p 17), (some 18), (some (11, false))⟩,
 ⟨.pick (.p 11) (.c (.bool true)) (.p 18), (some 19), none⟩,
 ⟨.assign (.p 19), (some 4), none⟩]
@[simp] def eq3_0 := id q3_0.eq_1
def q3_1 : List AOper :=
  [⟨.move .head (.p 0), (some 5), none⟩,
 ⟨.len true (.p 5), (some 6), none⟩,
 ⟨.bin .gtr 1 true (.p 6) (.c (.int .i64 2147483647)), (some 7), none⟩]
@[simp] def eq3_1 := id q3_1.eq_1
def k3_0 : ACode :=
  .ops q3_0 .ret
def k3_1 : ACode :=
  .ops [⟨.assign (.c (.bool true)), (some 4), none⟩] .ret
def k3_2 : ACode :=
  .cond (.p 7) k3_1 .skip
def k3_3 : ACode :=
  .seq k3_2 k3_0
def k3_4 : ACode :=
  .ops q3_1 k3_3
def k3_5 : ACode :=
  .ops [⟨.assign (.c (.bool false)), (some 4), none⟩] k3_4
def af3 : AFunc := ⟨20, k3_5, [.tmp 4], fun _ _ => none⟩

theorem ok3 : ∃ hs, pFunc Tryd.prog sg hs Tryd.f3 = some af3 := ⟨fun i => 0, by kernel_rfl⟩
end
def fnsL : List (FuncId × AFunc) := [(11, af11), (9, af9), (5, af5), (20, af20), (23, af23), (24, af24), (25, af25), (21, af21), (17, af17), (18, af18), (19, af19), (15, af15), (16, af16), (13, af13), (8, af8), (12, af12), (7, af7), (14, af14), (10, af10), (6, af6), (4, af4), (3, af3)]
def fns : FuncId → Option AFunc := fun f => fnsL.lookup f
theorem run11 {vs : List AV} {h0 : H} (hl : vs.length ≤ 86) {r : AV × H} (h : GoC fns (fun e => xends [.tmp 2, .tmp 3] e = some r) [] k11_46 ⟨fun j => (vs[j]?).getD .undef, fun _ => none, h0⟩) : callω fns 11 vs h0 = some r :=
  callω_run fns (af := af11) rfl rfl rfl rfl hl h
theorem run9 {vs : List AV} {h0 : H} (hl : vs.length ≤ 22) {r : AV × H} (h : GoC fns (fun e => xends [.tmp 2] e = some r) [] k9_16 ⟨fun j => (vs[j]?).getD .undef, fun _ => none, h0⟩) : callω fns 9 vs h0 = some r :=
  callω_run fns (af := af9) rfl rfl rfl rfl hl h
theorem run5 {vs : List AV} {h0 : H} (hl : vs.length ≤ 10) {r : AV × H} (h : GoC fns (fun e => xends [.tmp 2] e = some r) [] k5_1 ⟨fun j => (vs[j]?).getD .undef, fun _ => none, h0⟩) : callω fns 5 vs h0 = some r :=
  callω_run fns (af := af5) rfl rfl rfl rfl hl h
theorem run20 {vs : List AV} {h0 : H} (hl : vs.length ≤ 33) {r : AV × H} (h : GoC fns (fun e => xends [.tmp 4, .tmp 5] e = some r) [] k20_7 ⟨fun j => (vs[j]?).getD .undef, fun _ => none, h0⟩) : callω fns 20 vs h0 = some r :=
  callω_run fns (af := af20) rfl rfl rfl rfl hl h
theorem run23 {vs : List AV} {h0 : H} (hl : vs.length ≤ 13) {r : AV × H} (h : GoC fns (fun e => xends [.tmp 2] e = some r) [] k23_1 ⟨fun j => (vs[j]?).getD .undef, fun _ => none, h0⟩) : callω fns 23 vs h0 = some r :=
  callω_run fns (af := af23) rfl rfl rfl rfl hl h
theorem run21 {vs : List AV} {h0 : H} (hl : vs.length ≤ 110) {r : AV × H} (h : GoC fns (fun e => xends [.tmp 4] e = some r) [] k21_27 ⟨fun j => (vs[j]?).getD .undef, fun _ => none, h0⟩) : callω fns 21 vs h0 = some r :=
  callω_run fns (af := af21) rfl rfl rfl rfl hl h
theorem runs21 {vs : List AV} {h0 : H} (hl : vs.length ≤ 110) {p : AV × H → Prop} (h : GoC fns (fun e => Run (xends [.tmp 4] e) p) [] k21_27 ⟨fun j => (vs[j]?).getD .undef, fun _ => none, h0⟩) : CW fns 21 vs h0 p :=
  callω_runs fns (af := af21) rfl rfl rfl rfl hl h
theorem runs17 {vs : List AV} {h0 : H} (hl : vs.length ≤ 26) {p : AV × H → Prop} (h : GoC fns (fun e => Run (xends [.tmp 4] e) p) [] k17_8 ⟨fun j => (vs[j]?).getD .undef, fun _ => none, h0⟩) : CW fns 17 vs h0 p :=
  callω_runs fns (af := af17) rfl rfl rfl rfl hl h
theorem runs18 {vs : List AV} {h0 : H} (hl : vs.length ≤ 32) {p : AV × H → Prop} (h : GoC fns (fun e => Run (xends [.tmp 4, .tmp 5] e) p) [] k18_7 ⟨fun j => (vs[j]?).getD .undef, fun _ => none, h0⟩) : CW fns 18 vs h0 p :=
  callω_runs fns (af := af18) rfl rfl rfl rfl hl h
theorem run15 {vs : List AV} {h0 : H} (hl : vs.length ≤ 15) {r : AV × H} (h : GoC fns (fun e => xends [.tmp 2] e = some r) [] k15_5 ⟨fun j => (vs[j]?).getD .undef, fun _ => none, h0⟩) : callω fns 15 vs h0 = some r :=
  callω_run fns (af := af15) rfl rfl rfl rfl hl h
theorem runs16 {vs : List AV} {h0 : H} (hl : vs.length ≤ 143) {p : AV × H → Prop} (h : GoC fns (fun e => Run (xends [.tmp 2] e) p) [] k16_89 ⟨fun j => (vs[j]?).getD .undef, fun _ => none, h0⟩) : CW fns 16 vs h0 p :=
  callω_runs fns (af := af16) rfl rfl rfl rfl hl h
theorem runs13 {vs : List AV} {h0 : H} (hl : vs.length ≤ 5) {p : AV × H → Prop} (h : GoC fns (fun e => Run (xends [.tmp 2] e) p) [] k13_1 ⟨fun j => (vs[j]?).getD .undef, fun _ => none, h0⟩) : CW fns 13 vs h0 p :=
  callω_runs fns (af := af13) rfl rfl rfl rfl hl h
theorem runs8 {vs : List AV} {h0 : H} (hl : vs.length ≤ 5) {p : AV × H → Prop} (h : GoC fns (fun e => Run (xends [.tmp 2] e) p) [] k8_1 ⟨fun j => (vs[j]?).getD .undef, fun _ => none, h0⟩) : CW fns 8 vs h0 p :=
  callω_runs fns (af := af8) rfl rfl rfl rfl hl h
theorem run12 {vs : List AV} {h0 : H} (hl : vs.length ≤ 11) {r : AV × H} (h : GoC fns (fun e => xends [.tmp 2] e = some r) [] k12_1 ⟨fun j => (vs[j]?).getD .undef, fun _ => none, h0⟩) : callω fns 12 vs h0 = some r :=
  callω_run fns (af := af12) rfl rfl rfl rfl hl h
theorem run7 {vs : List AV} {h0 : H} (hl : vs.length ≤ 120) {r : AV × H} (h : GoC fns (fun e => xends [.tmp 4] e = some r) [] k7_34 ⟨fun j => (vs[j]?).getD .undef, fun _ => none, h0⟩) : callω fns 7 vs h0 = some r :=
  callω_run fns (af := af7) rfl rfl rfl rfl hl h
theorem runs14 {vs : List AV} {h0 : H} (hl : vs.length ≤ 167) {p : AV × H → Prop} (h : GoC fns (fun e => Run (xends [] e) p) [] k14_85 ⟨fun j => (vs[j]?).getD .undef, fun _ => none, h0⟩) : CW fns 14 vs h0 p :=
  callω_runs fns (af := af14) rfl rfl rfl rfl hl h
theorem runs10 {vs : List AV} {h0 : H} (hl : vs.length ≤ 10) {p : AV × H → Prop} (h : GoC fns (fun e => Run (xends [.tmp 4] e) p) [] k10_3 ⟨fun j => (vs[j]?).getD .undef, fun _ => none, h0⟩) : CW fns 10 vs h0 p :=
  callω_runs fns (af := af10) rfl rfl rfl rfl hl h
theorem runs6 {vs : List AV} {h0 : H} (hl : vs.length ≤ 8) {p : AV × H → Prop} (h : GoC fns (fun e => Run (xends [.tmp 4] e) p) [] k6_1 ⟨fun j => (vs[j]?).getD .undef, fun _ => none, h0⟩) : CW fns 6 vs h0 p :=
  callω_runs fns (af := af6) rfl rfl rfl rfl hl h
theorem runs4 {vs : List AV} {h0 : H} (hl : vs.length ≤ 23) {p : AV × H → Prop} (h : GoC fns (fun e => Run (xends [.tmp 2] e) p) [] k4_5 ⟨fun j => (vs[j]?).getD .undef, fun _ => none, h0⟩) : CW fns 4 vs h0 p :=
  callω_runs fns (af := af4) rfl rfl rfl rfl hl h
def OkF (f : FuncId) (af : AFunc) : Prop := ∃ fn, Tryd.prog.funcs[f]? = some fn ∧ (fn.name == "runtime.NumGoroutine") = false ∧ (∃ hs, pFunc Tryd.prog sg hs fn = some ⟨af.n, af.code, af.res, fun _ _ => none⟩) ∧ XOk Tryd.prog f af.x
def OkL : List (FuncId × AFunc) → Prop
  | [] => True
  | (f, af) :: r => OkF f af ∧ OkL r
theorem okL_lookup : ∀ {l : List (FuncId × AFunc)} {f : FuncId} {af : AFunc}, OkL l → l.lookup f = some af → OkF f af
  | [], _, _, _, h => by cases h
  | (g, ag) :: r, f, af, hl, h => by
    rw [List.lookup_cons] at h
    split at h
    · rename_i hb; injection h with h; subst h; have := beq_iff_eq.1 hb; subst this; exact hl.1
    · exact okL_lookup hl.2 h
theorem fnsOk : FnsOk Tryd.prog sg fns := fun f af h => okL_lookup (l := fnsL) ⟨⟨Tryd.f11, Tryd.func11, by kernel_rfl, ok11, xok_none _ _⟩, ⟨Tryd.f9, Tryd.func9, by kernel_rfl, ok9, xok_none _ _⟩, ⟨Tryd.f5, Tryd.func5, by kernel_rfl, ok5, xok_none _ _⟩, ⟨Tryd.f20, Tryd.func20, by kernel_rfl, ok20, xok_none _ _⟩, ⟨Tryd.f23, Tryd.func23, by kernel_rfl, ok23, xok_none _ _⟩, ⟨Tryd.f24, Tryd.func24, by kernel_rfl, ok24, xok_none _ _⟩, ⟨Tryd.f25, Tryd.func25, by kernel_rfl, ok25, xok_grow⟩, ⟨Tryd.f21, Tryd.func21, by kernel_rfl, ok21, xok_none _ _⟩, ⟨Tryd.f17, Tryd.func17, by kernel_rfl, ok17, xok_none _ _⟩, ⟨Tryd.f18, Tryd.func18, by kernel_rfl, ok18, xok_none _ _⟩, ⟨Tryd.f19, Tryd.func19, by kernel_rfl, ok19, xok_rune⟩, ⟨Tryd.f15, Tryd.func15, by kernel_rfl, ok15, xok_none _ _⟩, ⟨Tryd.f16, Tryd.func16, by kernel_rfl, ok16, xok_none _ _⟩, ⟨Tryd.f13, Tryd.func13, by kernel_rfl, ok13, xok_none _ _⟩, ⟨Tryd.f8, Tryd.func8, by kernel_rfl, ok8, xok_none _ _⟩, ⟨Tryd.f12, Tryd.func12, by kernel_rfl, ok12, xok_none _ _⟩, ⟨Tryd.f7, Tryd.func7, by kernel_rfl, ok7, xok_none _ _⟩, ⟨Tryd.f14, Tryd.func14, by kernel_rfl, ok14, xok_none _ _⟩, ⟨Tryd.f10, Tryd.func10, by kernel_rfl, ok10, xok_none _ _⟩, ⟨Tryd.f6, Tryd.func6, by kernel_rfl, ok6, xok_none _ _⟩, ⟨Tryd.f4, Tryd.func4, by kernel_rfl, ok4, xok_none _ _⟩, ⟨Tryd.f3, Tryd.func3, by kernel_rfl, ok3, xok_none _ _⟩, trivial⟩ h
end Go.Proofs.YtpinoabhaaemfaaDoor.Abs
