/- The functions that the law reaches, made ready for the interpreter (printed by a program of this session; the kernel compares each with the given program). -/
import Derived.Test.YtjlioidknhdceaaDoorA27
import Derived.Test.YtjlioidknhdceaaDoorA22
import Derived.Test.YtjlioidknhdceaaDoorProg
import Derived.KernelRfl
namespace Go.Proofs.YtjlioidknhdceaaDoor.Abs
set_option linter.all false
set_option maxRecDepth 100000
open Go.Proofs
def sg : FuncId → Nat → Nat := fun f i =>
  if f == 10 then (if i == 99 then 1 else 0) else
  if f == 11 then (if i == 99 then 1 else 0) else
  if f == 13 then (if i == 99 then 1 else 0) else
  if f == 21 then (if i == 99 then 1 else 0) else
  if f == 25 then (if i == 99 then 1 else 0) else
  if f == 27 then (if i == 99 then 1 else 0) else
  if f == 29 then (if i == 1 then 2 else if i == 99 then 1 else 0) else
  0
section
variable {fns : FuncId → Option AFunc} {Q : Ex × St → Prop} {s : List Fr} {c : ACode} {st : St}
def q10_0 : List AOper :=
  [⟨.load .take true 5 (.p 3), (some 34), none⟩,
 ⟨.store 5 (.p 2) (.p 34), none, none⟩]
@[simp] def eq10_0 := id q10_0.eq_1
def q10_1 : List AOper :=
  [⟨.fieldAddr 1 (.p 3), (some 18), none⟩,
 ⟨.load .look false 1 (.p 18), (some 19), none⟩,
 ⟨.move .look (.t 4), (some 20), none⟩,
 ⟨.copyB 1 false (.m 19) (.p 20), (some 21), none⟩]
@[simp] def eq10_1 := id q10_1.eq_1
def q10_2 : List AOper :=
  [⟨.move .head (.t 0), (some 14), none⟩,
 ⟨.len false (.p 14), (some 15), none⟩,
 ⟨.mkSl false 59 1 1 [.int .i8 0] (.p 15) (.p 15), (some 16), none⟩,
 ⟨.fieldAddr 1 (.p 3), (some 17), none⟩,
 ⟨.store 1 (.p 17) (.t 16), none, none⟩]
@[simp] def eq10_2 := id q10_2.eq_1
def q10_3 : List AOper :=
  [⟨.fieldAddr 0 (.p 3), (some 13), none⟩,
 ⟨.store 1 (.p 13) (.c (.int .u8 3)), none, none⟩]
@[simp] def eq10_3 := id q10_3.eq_1
def q10_4 : List AOper :=
  [⟨.fieldAddr 2 (.p 3), (some 30), none⟩,
 ⟨.load .look false 1 (.p 30), (some 31), none⟩,
 ⟨.move .look (.t 5), (some 32), none⟩,
 ⟨.copyB 1 false (.m 31) (.p 32), (some 33), none⟩]
@[simp] def eq10_4 := id q10_4.eq_1
def q10_5 : List AOper :=
  [⟨.move .head (.t 0), (some 26), none⟩,
 ⟨.len false (.p 26), (some 27), none⟩,
 ⟨.mkSl true 38 1 4 [.flt .f32 0] (.p 27) (.p 27), (some 28), none⟩,
 ⟨.fieldAddr 2 (.p 3), (some 29), none⟩,
 ⟨.store 1 (.p 29) (.t 28), none, none⟩]
@[simp] def eq10_5 := id q10_5.eq_1
def q10_6 : List AOper :=
  [⟨.fieldAddr 0 (.p 3), (some 25), none⟩,
 ⟨.store 1 (.p 25) (.c (.int .u8 39)), none, none⟩]
@[simp] def eq10_6 := id q10_6.eq_1
def q10_7 : List AOper :=
  [⟨.mkIface 9 (.c (.str [117, 110, 115, 117, 112, 112, 111, 114, 116, 101, 100, 32, 116, 121, 112, 101])), (some 9), none⟩,
 ⟨.dead, none, none⟩]
@[simp] def eq10_7 := id q10_7.eq_1
def q10_8 : List AOper :=
  [⟨.px (.tassert 37 (.slice .nil 0 1 []) true) [.p 8], (some 22), none⟩,
 ⟨.extract 22 1, (some 23), none⟩,
 ⟨.extract 22 0, (some 24), none⟩]
@[simp] def eq10_8 := id q10_8.eq_1
def q10_9 : List AOper :=
  [⟨.px (.tassert 25 (.slice .nil 0 1 []) true) [.p 8], (some 10), none⟩,
 ⟨.extract 10 1, (some 11), none⟩,
 ⟨.extract 10 0, (some 12), none⟩]
@[simp] def eq10_9 := id q10_9.eq_1
def q10_10 : List AOper :=
  [⟨.move .look (.t 0), (some 7), none⟩,
 ⟨.mkIface 37 (.t 7), (some 8), none⟩]
@[simp] def eq10_10 := id q10_10.eq_1
def k10_0 : ACode :=
  .ops q10_0 .ret
@[simp] def xk10_0 := @xOps _ _ _ k10_0.eq_1
def k10_1 : ACode :=
  .ops q10_1 .skip
def k10_2 : ACode :=
  .ops q10_2 k10_1
def k10_3 : ACode :=
  .ops q10_3 k10_2
def k10_4 : ACode :=
  .ops [⟨.assign (.t 12), (some 4), none⟩] k10_3
def k10_5 : ACode :=
  .ops q10_4 .skip
@[simp] def xk10_5 := @xOps _ _ _ k10_5.eq_1
def k10_6 : ACode :=
  .ops q10_5 k10_5
@[simp] def xk10_6 := @xOps _ _ _ k10_6.eq_1
def k10_7 : ACode :=
  .ops q10_6 k10_6
@[simp] def xk10_7 := @xOps _ _ _ k10_7.eq_1
def k10_8 : ACode :=
  .ops [⟨.assign (.t 24), (some 5), none⟩] k10_7
@[simp] def xk10_8 := @xOps _ _ _ k10_8.eq_1
def k10_9 : ACode :=
  .ops q10_7 .skip
def k10_10 : ACode :=
  .ops [⟨.assign (.p 8), (some 6), none⟩] k10_9
def k10_11 : ACode :=
  .cond (.p 23) k10_8 k10_10
@[simp] def xk10_11 := @xCond _ _ _ _ k10_11.eq_1
def k10_12 : ACode :=
  .ops q10_8 k10_11
@[simp] def xk10_12 := @xOps _ _ _ k10_12.eq_1
def k10_13 : ACode :=
  .cond (.p 11) k10_4 k10_12
@[simp] def xk10_13 := @xCond _ _ _ _ k10_13.eq_1
def k10_14 : ACode :=
  .ops q10_9 k10_13
@[simp] def xk10_14 := @xOps _ _ _ k10_14.eq_1
def k10_15 : ACode :=
  .block 0 k10_14
@[simp] def xk10_15 := @xBlock _ _ _ k10_15.eq_1
def k10_16 : ACode :=
  .seq k10_15 k10_0
@[simp] def xk10_16 := @xSeq _ _ _ k10_16.eq_1
def k10_17 : ACode :=
  .ops q10_10 k10_16
@[simp] def xk10_17 := @xOps _ _ _ k10_17.eq_1
def k10_18 : ACode :=
  .ops [⟨.newbox 3 [.int .u8 0, .slice .nil 0 1 [], .slice .nil 0 1 [], .slice .nil 0 1 [], .int .u8 0], (some 3), none⟩] k10_17
@[simp] def xk10_18 := @xOps _ _ _ k10_18.eq_1
def k10_19 : ACode :=
  .ops [⟨.newbox 2 [.int .u8 0, .slice .nil 0 1 [], .slice .nil 0 1 [], .slice .nil 0 1 [], .int .u8 0], (some 2), none⟩] k10_18
@[simp] def xk10_19 := @xOps _ _ _ k10_19.eq_1
def af10 : AFunc := ⟨35, k10_19, [.cell 2 true 5], fun _ _ => none⟩

theorem ok10 : ∃ hs, pFunc Tryd.prog sg hs Tryd.f10 = some af10 := ⟨fun i => if i == 28 then 1 else 0, by kernel_rfl⟩
def q14_0 : List AOper :=
  [⟨.fieldAddr 0 (.p 1), (some 3), none⟩,
 ⟨.load .take false 1 (.p 3), (some 4), none⟩,
 ⟨.assign (.p 4), (some 2), none⟩]
@[simp] def eq14_0 := id q14_0.eq_1
def q14_1 : List AOper :=
  [⟨.box 1 (.p 0), (some 1), none⟩,
 ⟨.assign (.c (.int .u8 0)), (some 2), none⟩]
@[simp] def eq14_1 := id q14_1.eq_1
def k14_0 : ACode :=
  .ops q14_0 .ret
@[simp] def xk14_0 := @xOps _ _ _ k14_0.eq_1
def k14_1 : ACode :=
  .ops q14_1 k14_0
@[simp] def xk14_1 := @xOps _ _ _ k14_1.eq_1
def af14 : AFunc := ⟨5, k14_1, [.tmp 2], fun _ _ => none⟩

theorem ok14 : ∃ hs, pFunc Tryd.prog sg hs Tryd.f14 = some af14 := ⟨fun i => 0, by kernel_rfl⟩
def q15_0 : List AOper :=
  [⟨.fieldAddr 1 (.p 1), (some 7), none⟩,
 ⟨.load .take false 1 (.p 7), (some 8), none⟩,
 ⟨.assign (.t 8), (some 2), none⟩,
 ⟨.assign (.c (.bool true)), (some 3), none⟩]
@[simp] def eq15_0 := id q15_0.eq_1
def q15_1 : List AOper :=
  [⟨.assign (.c (.slice .nil 0 1 [])), (some 2), none⟩,
 ⟨.assign (.c (.bool false)), (some 3), none⟩]
@[simp] def eq15_1 := id q15_1.eq_1
def q15_2 : List AOper :=
  [⟨.fieldAddr 0 (.p 1), (some 4), none⟩,
 ⟨.load .head false 1 (.p 4), (some 5), none⟩,
 ⟨.bin .neq 1 true (.p 5) (.c (.int .u8 3)), (some 6), none⟩]
@[simp] def eq15_2 := id q15_2.eq_1
def q15_3 : List AOper :=
  [⟨.box 1 (.p 0), (some 1), none⟩,
 ⟨.assign (.c (.slice .nil 0 1 [])), (some 2), none⟩,
 ⟨.assign (.c (.bool false)), (some 3), none⟩]
@[simp] def eq15_3 := id q15_3.eq_1
def k15_0 : ACode :=
  .ops q15_0 .ret
def k15_1 : ACode :=
  .ops q15_1 .ret
@[simp] def xk15_1 := @xOps _ _ _ k15_1.eq_1
def k15_2 : ACode :=
  .cond (.p 6) k15_1 .skip
@[simp] def xk15_2 := @xCond _ _ _ _ k15_2.eq_1
def k15_3 : ACode :=
  .seq k15_2 k15_0
@[simp] def xk15_3 := @xSeq _ _ _ k15_3.eq_1
def k15_4 : ACode :=
  .ops q15_2 k15_3
@[simp] def xk15_4 := @xOps _ _ _ k15_4.eq_1
def k15_5 : ACode :=
  .ops q15_3 k15_4
@[simp] def xk15_5 := @xOps _ _ _ k15_5.eq_1
def af15 : AFunc := ⟨9, k15_5, [.tmp 2, .tmp 3], fun _ _ => none⟩

theorem ok15 : ∃ hs, pFunc Tryd.prog sg hs Tryd.f15 = some af15 := ⟨fun i => 0, by kernel_rfl⟩
def q20_0 : List AOper :=
  [⟨.move .take (.t 3), (some 16), none⟩,
 ⟨.assign (.t 16), (some 2), none⟩]
@[simp] def eq20_0 := id q20_0.eq_1
def q20_1 : List AOper :=
  [⟨.fieldAddr 0 (.p 1), (some 12), none⟩,
 ⟨.load .look false 1 (.p 12), (some 13), none⟩,
 ⟨.build [.str [], .int .u8 0] [(0, 1, .c (.str [98, 115, 111, 110, 46, 86, 101, 99, 116, 111, 114, 46, 73, 110, 116, 56])), (1, 1, .p 13)], (some 14), none⟩,
 ⟨.mkIface 70 (.p 14), (some 15), none⟩,
 ⟨.dead, none, none⟩]
@[simp] def eq20_1 := id q20_1.eq_1
def q20_2 : List AOper :=
  [⟨.move .look (.p 4), (some 10), none⟩,
 ⟨.un .not (.p 10), (some 11), none⟩]
@[simp] def eq20_2 := id q20_2.eq_1
def q20_3 : List AOper :=
  [⟨.load .look true 5 (.p 1), (some 6), none⟩,
 ⟨.call 15 [(.p 6, false)], (some 7), none⟩,
 ⟨.move .look (.t 7), (some 5), none⟩,
 ⟨.extract 5 0, (some 8), none⟩,
 ⟨.extract 5 1, (some 9), none⟩,
 ⟨.assign (.t 8), (some 3), none⟩,
 ⟨.assign (.p 9), (some 4), none⟩]
@[simp] def eq20_3 := id q20_3.eq_1
def q20_4 : List AOper :=
  [⟨.box 1 (.p 0), (some 1), none⟩,
 ⟨.assign (.c (.slice .nil 0 1 [])), (some 2), none⟩]
@[simp] def eq20_4 := id q20_4.eq_1
def k20_0 : ACode :=
  .ops q20_0 .ret
def k20_1 : ACode :=
  .ops q20_1 .skip
def k20_2 : ACode :=
  .cond (.p 11) k20_1 .skip
def k20_3 : ACode :=
  .seq k20_2 k20_0
def k20_4 : ACode :=
  .ops q20_2 k20_3
def k20_5 : ACode :=
  .ops q20_3 k20_4
def k20_6 : ACode :=
  .ops q20_4 k20_5
def af20 : AFunc := ⟨17, k20_6, [.tmp 2], fun _ _ => none⟩

theorem ok20 : ∃ hs, pFunc Tryd.prog sg hs Tryd.f20 = some af20 := ⟨fun i => 0, by kernel_rfl⟩
def q19_0 : List AOper :=
  [⟨.move .look (.t 3), (some 28), none⟩,
 ⟨.build [.int .u8 0, .slice .nil 0 1 []] [(0, 1, .c (.int .u8 9)), (1, 1, .t 28)], (some 29), none⟩,
 ⟨.store 2 (.p 2) (.p 29), none, none⟩]
@[simp] def eq19_0 := id q19_0.eq_1
def q19_1 : List AOper :=
  [⟨.bin .add 1 true (.p 16) (.c (.int .i64 1)), (some 27), none⟩,
 ⟨.move .look (.p 27), (some 16), none⟩]
@[simp] def eq19_1 := id q19_1.eq_1
def q19_2 : List AOper :=
  [⟨.move .look (.m 3), (some 21), none⟩,
 ⟨.move .look (.p 4), (some 22), none⟩,
 ⟨.bin .add 1 true (.p 22) (.c (.int .i64 2)), (some 23), none⟩,
 ⟨.move .look (.p 5), (some 24), none⟩,
 ⟨.convInt .u8 (.p 24), (some 25), none⟩,
 ⟨.indexAddr 1 (.m 21) (.p 23), (some 26), none⟩,
 ⟨.store 1 (.p 26) (.p 25), none, none⟩]
@[simp] def eq19_2 := id q19_2.eq_1
def q19_3 : List AOper :=
  [⟨.move .take (.p 16), (some 18), none⟩,
 ⟨.indexAddr 1 (.t 14) (.p 16), (some 19), none⟩,
 ⟨.load .take false 1 (.p 19), (some 20), none⟩,
 ⟨.assign (.p 18), (some 4), none⟩,
 ⟨.assign (.p 20), (some 5), none⟩]
@[simp] def eq19_3 := id q19_3.eq_1
def q19_4 : List AOper :=
  [⟨.move .look (.t 0), (some 14), none⟩,
 ⟨.len false (.p 14), (some 15), none⟩,
 ⟨.move .head (.c (.int .i64 0)), (some 16), none⟩]
@[simp] def eq19_4 := id q19_4.eq_1
def q19_5 : List AOper :=
  [⟨.move .look (.m 3), (some 12), none⟩,
 ⟨.indexAddr 1 (.m 12) (.c (.int .i64 1)), (some 13), none⟩,
 ⟨.store 1 (.p 13) (.c (.int .u8 0)), none, none⟩]
@[simp] def eq19_5 := id q19_5.eq_1
def q19_6 : List AOper :=
  [⟨.move .look (.m 3), (some 10), none⟩,
 ⟨.indexAddr 1 (.m 10) (.c (.int .i64 0)), (some 11), none⟩,
 ⟨.store 1 (.p 11) (.c (.int .u8 3)), none, none⟩]
@[simp] def eq19_6 := id q19_6.eq_1
def q19_7 : List AOper :=
  [⟨.move .head (.t 0), (some 6), none⟩,
 ⟨.len false (.p 6), (some 7), none⟩,
 ⟨.bin .add 1 true (.p 7) (.c (.int .i64 2)), (some 8), none⟩,
 ⟨.mkSl true 5 1 1 [.int .u8 0] (.p 8) (.p 8), (some 9), none⟩,
 ⟨.assign (.t 9), (some 3), none⟩]
@[simp] def eq19_7 := id q19_7.eq_1
def k19_0 : ACode :=
  .ops q19_0 .ret
def k19_1 : ACode :=
  .ops q19_1 .skip
def k19_2 : ACode :=
  .ops q19_2 .skip
def k19_3 : ACode :=
  .ops q19_3 k19_2
def k19_4 : ACode :=
  .block 1 k19_3
def k19_5 : ACode :=
  .seq k19_4 k19_1
def k19_6 : ACode :=
  .cond (.p 17) .skip (.exit 0)
def k19_7 : ACode :=
  .seq k19_6 k19_5
def k19_8 : ACode :=
  .ops [⟨.bin .lss 1 false (.p 16) (.p 15), (some 17), none⟩] k19_7
def lc19_0 : ACode :=
  k19_8
@[simp] def xlc19_0 := @xSame _ _ lc19_0.eq_1
def k19_10 : ACode :=
  .loop lc19_0
def k19_11 : ACode :=
  .block 0 k19_10
def k19_12 : ACode :=
  .seq k19_11 k19_0
def k19_13 : ACode :=
  .ops q19_4 k19_12
def k19_14 : ACode :=
  .ops q19_5 k19_13
def k19_15 : ACode :=
  .ops q19_6 k19_14
def k19_16 : ACode :=
  .ops q19_7 k19_15
def k19_17 : ACode :=
  .ops [⟨.newbox 2 [.int .u8 0, .slice .nil 0 1 []], (some 2), none⟩] k19_16
def af19 : AFunc := ⟨30, k19_17, [.cell 2 true 2], fun _ _ => none⟩

theorem ok19 : ∃ hs, pFunc Tryd.prog sg hs Tryd.f19 = some af19 := ⟨fun i => if i == 9 then 1 else if i == 10 then 1 else if i == 11 then 1 else if i == 12 then 1 else if i == 13 then 1 else if i == 14 then 5 else if i == 21 then 1 else if i == 26 then 1 else 0, by kernel_rfl⟩
def q16_0 : List AOper :=
  [⟨.fieldAddr 2 (.p 1), (some 7), none⟩,
 ⟨.load .take false 1 (.p 7), (some 8), none⟩,
 ⟨.assign (.t 8), (some 2), none⟩,
 ⟨.assign (.c (.bool true)), (some 3), none⟩]
@[simp] def eq16_0 := id q16_0.eq_1
def q16_1 : List AOper :=
  [⟨.assign (.c (.slice .nil 0 1 [])), (some 2), none⟩,
 ⟨.assign (.c (.bool false)), (some 3), none⟩]
@[simp] def eq16_1 := id q16_1.eq_1
def q16_2 : List AOper :=
  [⟨.fieldAddr 0 (.p 1), (some 4), none⟩,
 ⟨.load .head false 1 (.p 4), (some 5), none⟩,
 ⟨.bin .neq 1 true (.p 5) (.c (.int .u8 39)), (some 6), none⟩]
@[simp] def eq16_2 := id q16_2.eq_1
def q16_3 : List AOper :=
  [⟨.box 1 (.p 0), (some 1), none⟩,
 ⟨.assign (.c (.slice .nil 0 1 [])), (some 2), none⟩,
 ⟨.assign (.c (.bool false)), (some 3), none⟩]
@[simp] def eq16_3 := id q16_3.eq_1
def k16_0 : ACode :=
  .ops q16_0 .ret
@[simp] def xk16_0 := @xOps _ _ _ k16_0.eq_1
def k16_1 : ACode :=
  .ops q16_1 .ret
def k16_2 : ACode :=
  .cond (.p 6) k16_1 .skip
@[simp] def xk16_2 := @xCond _ _ _ _ k16_2.eq_1
def k16_3 : ACode :=
  .seq k16_2 k16_0
@[simp] def xk16_3 := @xSeq _ _ _ k16_3.eq_1
def k16_4 : ACode :=
  .ops q16_2 k16_3
@[simp] def xk16_4 := @xOps _ _ _ k16_4.eq_1
def k16_5 : ACode :=
  .ops q16_3 k16_4
@[simp] def xk16_5 := @xOps _ _ _ k16_5.eq_1
def af16 : AFunc := ⟨9, k16_5, [.tmp 2, .tmp 3], fun _ _ => none⟩

theorem ok16 : ∃ hs, pFunc Tryd.prog sg hs Tryd.f16 = some af16 := ⟨fun i => 0, by kernel_rfl⟩
def q22_0 : List AOper :=
  [⟨.move .take (.t 3), (some 16), none⟩,
 ⟨.assign (.t 16), (some 2), none⟩]
@[simp] def eq22_0 := id q22_0.eq_1
def q22_1 : List AOper :=
  [⟨.fieldAddr 0 (.p 1), (some 12), none⟩,
 ⟨.load .look false 1 (.p 12), (some 13), none⟩,
 ⟨.build [.str [], .int .u8 0] [(0, 1, .c (.str [98, 115, 111, 110, 46, 86, 101, 99, 116, 111, 114, 46, 70, 108, 111, 97, 116, 51, 50])), (1, 1, .p 13)], (some 14), none⟩,
 ⟨.mkIface 70 (.p 14), (some 15), none⟩,
 ⟨.dead, none, none⟩]
@[simp] def eq22_1 := id q22_1.eq_1
def q22_2 : List AOper :=
  [⟨.move .look (.p 4), (some 10), none⟩,
 ⟨.un .not (.p 10), (some 11), none⟩]
@[simp] def eq22_2 := id q22_2.eq_1
def q22_3 : List AOper :=
  [⟨.load .look true 5 (.p 1), (some 6), none⟩,
 ⟨.call 16 [(.p 6, false)], (some 7), none⟩,
 ⟨.move .look (.t 7), (some 5), none⟩,
 ⟨.extract 5 0, (some 8), none⟩,
 ⟨.extract 5 1, (some 9), none⟩,
 ⟨.assign (.t 8), (some 3), none⟩,
 ⟨.assign (.p 9), (some 4), none⟩]
@[simp] def eq22_3 := id q22_3.eq_1
def q22_4 : List AOper :=
  [⟨.box 1 (.p 0), (some 1), none⟩,
 ⟨.assign (.c (.slice .nil 0 1 [])), (some 2), none⟩]
@[simp] def eq22_4 := id q22_4.eq_1
def k22_0 : ACode :=
  .ops q22_0 .ret
@[simp] def xk22_0 := @xOps _ _ _ k22_0.eq_1
def k22_1 : ACode :=
  .ops q22_1 .skip
def k22_2 : ACode :=
  .cond (.p 11) k22_1 .skip
@[simp] def xk22_2 := @xCond _ _ _ _ k22_2.eq_1
def k22_3 : ACode :=
  .seq k22_2 k22_0
@[simp] def xk22_3 := @xSeq _ _ _ k22_3.eq_1
def k22_4 : ACode :=
  .ops q22_2 k22_3
@[simp] def xk22_4 := @xOps _ _ _ k22_4.eq_1
def k22_5 : ACode :=
  .ops q22_3 k22_4
@[simp] def xk22_5 := @xOps _ _ _ k22_5.eq_1
def k22_6 : ACode :=
  .ops q22_4 k22_5
@[simp] def xk22_6 := @xOps _ _ _ k22_6.eq_1
def af22 : AFunc := ⟨17, k22_6, [.tmp 2], fun _ _ => none⟩

theorem ok22 : ∃ hs, pFunc Tryd.prog sg hs Tryd.f22 = some af22 := ⟨fun i => 0, by kernel_rfl⟩
def q29_0 : List AOper :=
  [⟨.move .look (.m 1), (some 23), none⟩,
 ⟨.move .look (.p 2), (some 24), none⟩,
 ⟨.bin .shr 1 true (.p 24) (.c (.int .u64 24)), (some 25), none⟩,
 ⟨.convInt .u8 (.p 25), (some 26), none⟩,
 ⟨.indexAddr 1 (.m 23) (.c (.int .i64 3)), (some 27), none⟩,
 ⟨.store 1 (.p 27) (.p 26), none, none⟩]
@[simp] def eq29_0 := id q29_0.eq_1
def q29_1 : List AOper :=
  [⟨.move .look (.m 1), (some 18), none⟩,
 ⟨.move .look (.p 2), (some 19), none⟩,
 ⟨.bin .shr 1 true (.p 19) (.c (.int .u64 16)), (some 20), none⟩,
 ⟨.convInt .u8 (.p 20), (some 21), none⟩,
 ⟨.indexAddr 1 (.m 18) (.c (.int .i64 2)), (some 22), none⟩,
 ⟨.store 1 (.p 22) (.p 21), none, none⟩]
@[simp] def eq29_1 := id q29_1.eq_1
def q29_2 : List AOper :=
  [⟨.move .look (.m 1), (some 13), none⟩,
 ⟨.move .look (.p 2), (some 14), none⟩,
 ⟨.bin .shr 1 true (.p 14) (.c (.int .u64 8)), (some 15), none⟩,
 ⟨.convInt .u8 (.p 15), (some 16), none⟩,
 ⟨.indexAddr 1 (.m 13) (.c (.int .i64 1)), (some 17), none⟩,
 ⟨.store 1 (.p 17) (.p 16), none, none⟩]
@[simp] def eq29_2 := id q29_2.eq_1
def q29_3 : List AOper :=
  [⟨.move .look (.m 1), (some 9), none⟩,
 ⟨.move .look (.p 2), (some 10), none⟩,
 ⟨.convInt .u8 (.p 10), (some 11), none⟩,
 ⟨.indexAddr 1 (.m 9) (.c (.int .i64 0)), (some 12), none⟩,
 ⟨.store 1 (.p 12) (.p 11), none, none⟩]
@[simp] def eq29_3 := id q29_3.eq_1
def q29_4 : List AOper :=
  [⟨.move .look (.t 1), (some 6), none⟩,
 ⟨.indexAddr 1 (.t 6) (.c (.int .i64 3)), (some 7), none⟩,
 ⟨.load .head false 1 (.p 7), (some 8), none⟩]
@[simp] def eq29_4 := id q29_4.eq_1
def k29_0 : ACode :=
  .ops q29_0 .ret
@[simp] def xk29_0 := @xOps _ _ _ k29_0.eq_1
def k29_1 : ACode :=
  .ops q29_1 k29_0
@[simp] def xk29_1 := @xOps _ _ _ k29_1.eq_1
def k29_2 : ACode :=
  .ops q29_2 k29_1
@[simp] def xk29_2 := @xOps _ _ _ k29_2.eq_1
def k29_3 : ACode :=
  .ops q29_3 k29_2
@[simp] def xk29_3 := @xOps _ _ _ k29_3.eq_1
def k29_4 : ACode :=
  .ops q29_4 k29_3
@[simp] def xk29_4 := @xOps _ _ _ k29_4.eq_1
def k29_5 : ACode :=
  .ops [⟨.box 3 (.p 0), (some 3), none⟩] k29_4
@[simp] def xk29_5 := @xOps _ _ _ k29_5.eq_1
def af29 : AFunc := ⟨28, k29_5, [], fun _ _ => none⟩

theorem ok29 : ∃ hs, pFunc Tryd.prog sg hs Tryd.f29 = some af29 := ⟨fun i => if i == 9 then 1 else if i == 12 then 1 else if i == 13 then 1 else if i == 17 then 1 else if i == 18 then 1 else if i == 22 then 1 else if i == 23 then 1 else if i == 27 then 1 else 0, by kernel_rfl⟩
def q21_0 : List AOper :=
  [⟨.assign (.u 3), (some 31), none⟩,
 ⟨.build [.int .u8 0, .slice .nil 0 1 []] [(0, 1, .c (.int .u8 9)), (1, 1, .t 31)], (some 32), none⟩,
 ⟨.store 2 (.p 2) (.p 32), none, none⟩]
@[simp] def eq21_0 := id q21_0.eq_1
def q21_1 : List AOper :=
  [⟨.bin .add 1 true (.p 18) (.c (.int .i64 1)), (some 30), none⟩,
 ⟨.move .look (.p 30), (some 18), none⟩]
@[simp] def eq21_1 := id q21_1.eq_1
def q21_2 : List AOper :=
  [⟨.move .take (.t 3), (some 27), none⟩,
 ⟨.px (.slArr 4 5 1) [.p 4, .c (.int .i64 0), .c (.int .i64 4)], (some 28), none⟩,
 ⟨.append 5 1 1 false (.u 27) (.p 28), (some 29), none⟩,
 ⟨.assign (.t 29), (some 3), none⟩]
@[simp] def eq21_2 := id q21_2.eq_1
def q21_3 : List AOper :=
  [⟨.load .look true 0 (.c (.gl 2)), (some 22), none⟩,
 ⟨.px (.slArr 4 5 1) [.p 4, .c (.int .i64 0), .c (.int .i64 4)], (some 23), none⟩,
 ⟨.move .look (.p 6), (some 24), none⟩,
 ⟨.px (.fb 2) [.p 24], (some 25), none⟩,
 ⟨.hcall 29 [(.p 22, false), (.m 23, false), (.p 25, false)], (some 26), none⟩]
@[simp] def eq21_3 := id q21_3.eq_1
def q21_4 : List AOper :=
  [⟨.indexAddr 1 (.t 16) (.p 18), (some 20), none⟩,
 ⟨.load .take false 1 (.p 20), (some 21), none⟩,
 ⟨.assign (.p 21), (some 6), none⟩]
@[simp] def eq21_4 := id q21_4.eq_1
def q21_5 : List AOper :=
  [⟨.move .look (.t 0), (some 16), none⟩,
 ⟨.len false (.p 16), (some 17), none⟩,
 ⟨.move .head (.c (.int .i64 0)), (some 18), none⟩]
@[simp] def eq21_5 := id q21_5.eq_1
def q21_6 : List AOper :=
  [⟨.move .look (.m 3), (some 14), none⟩,
 ⟨.indexAddr 1 (.m 14) (.c (.int .i64 1)), (some 15), none⟩,
 ⟨.store 1 (.p 15) (.c (.int .u8 0)), none, none⟩]
@[simp] def eq21_6 := id q21_6.eq_1
def q21_7 : List AOper :=
  [⟨.move .look (.m 3), (some 12), none⟩,
 ⟨.indexAddr 1 (.m 12) (.c (.int .i64 0)), (some 13), none⟩,
 ⟨.store 1 (.p 13) (.c (.int .u8 39)), none, none⟩]
@[simp] def eq21_7 := id q21_7.eq_1
def q21_8 : List AOper :=
  [⟨.move .head (.t 0), (some 7), none⟩,
 ⟨.len false (.p 7), (some 8), none⟩,
 ⟨.bin .mul 1 true (.p 8) (.c (.int .i64 4)), (some 9), none⟩,
 ⟨.bin .add 1 true (.p 9) (.c (.int .i64 2)), (some 10), none⟩,
 ⟨.mkSl true 5 1 1 [.int .u8 0] (.c (.int .i64 2)) (.p 10), (some 11), none⟩,
 ⟨.assign (.t 11), (some 3), none⟩]
@[simp] def eq21_8 := id q21_8.eq_1
def k21_0 : ACode :=
  .ops q21_0 .ret
@[simp] def xk21_0 := @xOps _ _ _ k21_0.eq_1
def k21_1 : ACode :=
  .ops q21_1 .skip
@[simp] def xk21_1 := @xOps _ _ _ k21_1.eq_1
def k21_2 : ACode :=
  .ops q21_2 .skip
@[simp] def xk21_2 := @xOps _ _ _ k21_2.eq_1
def k21_3 : ACode :=
  .ops q21_3 k21_2
@[simp] def xk21_3 := @xOps _ _ _ k21_3.eq_1
def k21_4 : ACode :=
  .ops q21_4 k21_3
@[simp] def xk21_4 := @xOps _ _ _ k21_4.eq_1
def k21_5 : ACode :=
  .block 1 k21_4
@[simp] def xk21_5 := @xBlock _ _ _ k21_5.eq_1
def k21_6 : ACode :=
  .seq k21_5 k21_1
@[simp] def xk21_6 := @xSeq _ _ _ k21_6.eq_1
def k21_7 : ACode :=
  .cond (.p 19) .skip (.exit 0)
@[simp] def xk21_7 := @xCond _ _ _ _ k21_7.eq_1
def k21_8 : ACode :=
  .seq k21_7 k21_6
@[simp] def xk21_8 := @xSeq _ _ _ k21_8.eq_1
def k21_9 : ACode :=
  .ops [⟨.bin .lss 1 false (.p 18) (.p 17), (some 19), none⟩] k21_8
@[simp] def xk21_9 := @xOps _ _ _ k21_9.eq_1
def lc21_0 : ACode :=
  k21_9
@[simp] def xlc21_0 := @xSame _ _ lc21_0.eq_1
def k21_11 : ACode :=
  .loop lc21_0
@[simp] def xk21_11 := @xLoop _ _ k21_11.eq_1
def k21_12 : ACode :=
  .block 0 k21_11
@[simp] def xk21_12 := @xBlock _ _ _ k21_12.eq_1
def k21_13 : ACode :=
  .seq k21_12 k21_0
@[simp] def xk21_13 := @xSeq _ _ _ k21_13.eq_1
def k21_14 : ACode :=
  .ops q21_5 k21_13
@[simp] def xk21_14 := @xOps _ _ _ k21_14.eq_1
def k21_15 : ACode :=
  .ops [⟨.newobj [.int .u8 0, .int .u8 0, .int .u8 0, .int .u8 0], (some 4), none⟩] k21_14
@[simp] def xk21_15 := @xOps _ _ _ k21_15.eq_1
def k21_16 : ACode :=
  .ops q21_6 k21_15
@[simp] def xk21_16 := @xOps _ _ _ k21_16.eq_1
def k21_17 : ACode :=
  .ops q21_7 k21_16
@[simp] def xk21_17 := @xOps _ _ _ k21_17.eq_1
def k21_18 : ACode :=
  .ops q21_8 k21_17
@[simp] def xk21_18 := @xOps _ _ _ k21_18.eq_1
def k21_19 : ACode :=
  .ops [⟨.newbox 2 [.int .u8 0, .slice .nil 0 1 []], (some 2), none⟩] k21_18
@[simp] def xk21_19 := @xOps _ _ _ k21_19.eq_1
def af21 : AFunc := ⟨33, k21_19, [.cell 2 true 2], fun _ _ => none⟩

theorem ok21 : ∃ hs, pFunc Tryd.prog sg hs Tryd.f21 = some af21 := ⟨fun i => if i == 4 then 1 else if i == 11 then 1 else if i == 12 then 1 else if i == 13 then 1 else if i == 14 then 1 else if i == 15 then 1 else if i == 16 then 5 else if i == 23 then 1 else if i == 29 then 2 else if i == 31 then 7 else 0, by kernel_rfl⟩
def q18_0 : List AOper :=
  [⟨.fieldAddr 3 (.p 1), (some 8), none⟩,
 ⟨.load .take false 1 (.p 8), (some 9), none⟩,
 ⟨.fieldAddr 4 (.p 1), (some 10), none⟩,
 ⟨.load .take false 1 (.p 10), (some 11), none⟩,
 ⟨.assign (.t 9), (some 2), none⟩,
 ⟨.assign (.p 11), (some 3), none⟩,
 ⟨.assign (.c (.bool true)), (some 4), none⟩]
@[simp] def eq18_0 := id q18_0.eq_1
def q18_1 : List AOper :=
  [⟨.assign (.c (.slice .nil 0 1 [])), (some 2), none⟩,
 ⟨.assign (.c (.int .u8 0)), (some 3), none⟩,
 ⟨.assign (.c (.bool false)), (some 4), none⟩]
@[simp] def eq18_1 := id q18_1.eq_1
def q18_2 : List AOper :=
  [⟨.fieldAddr 0 (.p 1), (some 5), none⟩,
 ⟨.load .head false 1 (.p 5), (some 6), none⟩,
 ⟨.bin .neq 1 true (.p 6) (.c (.int .u8 16)), (some 7), none⟩]
@[simp] def eq18_2 := id q18_2.eq_1
def q18_3 : List AOper :=
  [⟨.box 1 (.p 0), (some 1), none⟩,
 ⟨.assign (.c (.slice .nil 0 1 [])), (some 2), none⟩,
 ⟨.assign (.c (.int .u8 0)), (some 3), none⟩,
 ⟨.assign (.c (.bool false)), (some 4), none⟩]
@[simp] def eq18_3 := id q18_3.eq_1
def k18_0 : ACode :=
  .ops q18_0 .ret
def k18_1 : ACode :=
  .ops q18_1 .ret
@[simp] def xk18_1 := @xOps _ _ _ k18_1.eq_1
def k18_2 : ACode :=
  .cond (.p 7) k18_1 .skip
@[simp] def xk18_2 := @xCond _ _ _ _ k18_2.eq_1
def k18_3 : ACode :=
  .seq k18_2 k18_0
@[simp] def xk18_3 := @xSeq _ _ _ k18_3.eq_1
def k18_4 : ACode :=
  .ops q18_2 k18_3
@[simp] def xk18_4 := @xOps _ _ _ k18_4.eq_1
def k18_5 : ACode :=
  .ops q18_3 k18_4
@[simp] def xk18_5 := @xOps _ _ _ k18_5.eq_1
def af18 : AFunc := ⟨12, k18_5, [.tmp 2, .tmp 3, .tmp 4], fun _ _ => none⟩

theorem ok18 : ∃ hs, pFunc Tryd.prog sg hs Tryd.f18 = some af18 := ⟨fun i => 0, by kernel_rfl⟩
def q24_0 : List AOper :=
  [⟨.move .take (.t 4), (some 19), none⟩,
 ⟨.move .take (.p 5), (some 20), none⟩,
 ⟨.assign (.t 19), (some 2), none⟩,
 ⟨.assign (.p 20), (some 3), none⟩]
@[simp] def eq24_0 := id q24_0.eq_1
def q24_1 : List AOper :=
  [⟨.fieldAddr 0 (.p 1), (some 15), none⟩,
 ⟨.load .look false 1 (.p 15), (some 16), none⟩,
 ⟨.build [.str [], .int .u8 0] [(0, 1, .c (.str [98, 115, 111, 110, 46, 86, 101, 99, 116, 111, 114, 46, 80, 97, 99, 107, 101, 100, 66, 105, 116])), (1, 1, .p 16)], (some 17), none⟩,
 ⟨.mkIface 70 (.p 17), (some 18), none⟩,
 ⟨.dead, none, none⟩]
@[simp] def eq24_1 := id q24_1.eq_1
def q24_2 : List AOper :=
  [⟨.move .look (.p 6), (some 13), none⟩,
 ⟨.un .not (.p 13), (some 14), none⟩]
@[simp] def eq24_2 := id q24_2.eq_1
def q24_3 : List AOper :=
  [⟨.load .look true 5 (.p 1), (some 8), none⟩,
 ⟨.call 18 [(.p 8, false)], (some 9), none⟩,
 ⟨.move .look (.t 9), (some 7), none⟩,
 ⟨.extract 7 0, (some 10), none⟩,
 ⟨.extract 7 1, (some 11), none⟩,
 ⟨.extract 7 2, (some 12), none⟩,
 ⟨.assign (.t 10), (some 4), none⟩,
 ⟨.assign (.p 11), (some 5), none⟩,
 ⟨.assign (.p 12), (some 6), none⟩]
@[simp] def eq24_3 := id q24_3.eq_1
def q24_4 : List AOper :=
  [⟨.box 1 (.p 0), (some 1), none⟩,
 ⟨.assign (.c (.slice .nil 0 1 [])), (some 2), none⟩,
 ⟨.assign (.c (.int .u8 0)), (some 3), none⟩]
@[simp] def eq24_4 := id q24_4.eq_1
def k24_0 : ACode :=
  .ops q24_0 .ret
def k24_1 : ACode :=
  .ops q24_1 .skip
def k24_2 : ACode :=
  .cond (.p 14) k24_1 .skip
def k24_3 : ACode :=
  .seq k24_2 k24_0
def k24_4 : ACode :=
  .ops q24_2 k24_3
def k24_5 : ACode :=
  .ops q24_3 k24_4
def k24_6 : ACode :=
  .ops q24_4 k24_5
def af24 : AFunc := ⟨21, k24_6, [.tmp 2, .tmp 3], fun _ _ => none⟩

theorem ok24 : ∃ hs, pFunc Tryd.prog sg hs Tryd.f24 = some af24 := ⟨fun i => 0, by kernel_rfl⟩
def q23_0 : List AOper :=
  [⟨.move .look (.t 5), (some 19), none⟩,
 ⟨.build [.int .u8 0, .slice .nil 0 1 []] [(0, 1, .c (.int .u8 9)), (1, 1, .t 19)], (some 20), none⟩,
 ⟨.store 2 (.p 4) (.p 20), none, none⟩]
@[simp] def eq23_0 := id q23_0.eq_1
def q23_1 : List AOper :=
  [⟨.move .look (.m 5), (some 15), none⟩,
 ⟨.sliceSl 1 (.m 15) (some (.c (.int .i64 2))) none, (some 16), none⟩,
 ⟨.move .look (.t 0), (some 17), none⟩,
 ⟨.copyB 1 false (.m 16) (.p 17), (some 18), none⟩]
@[simp] def eq23_1 := id q23_1.eq_1
def q23_2 : List AOper :=
  [⟨.move .look (.m 5), (some 12), none⟩,
 ⟨.move .take (.p 1), (some 13), none⟩,
 ⟨.indexAddr 1 (.m 12) (.c (.int .i64 1)), (some 14), none⟩,
 ⟨.store 1 (.p 14) (.p 13), none, none⟩]
@[simp] def eq23_2 := id q23_2.eq_1
def q23_3 : List AOper :=
  [⟨.move .look (.m 5), (some 10), none⟩,
 ⟨.indexAddr 1 (.m 10) (.c (.int .i64 0)), (some 11), none⟩,
 ⟨.store 1 (.p 11) (.c (.int .u8 16)), none, none⟩]
@[simp] def eq23_3 := id q23_3.eq_1
def q23_4 : List AOper :=
  [⟨.move .head (.t 0), (some 6), none⟩,
 ⟨.len false (.p 6), (some 7), none⟩,
 ⟨.bin .add 1 true (.p 7) (.c (.int .i64 2)), (some 8), none⟩,
 ⟨.mkSl true 5 1 1 [.int .u8 0] (.p 8) (.p 8), (some 9), none⟩,
 ⟨.assign (.t 9), (some 5), none⟩]
@[simp] def eq23_4 := id q23_4.eq_1
def k23_0 : ACode :=
  .ops q23_0 .ret
def k23_1 : ACode :=
  .ops q23_1 k23_0
def k23_2 : ACode :=
  .ops q23_2 k23_1
def k23_3 : ACode :=
  .ops q23_3 k23_2
def k23_4 : ACode :=
  .ops q23_4 k23_3
def k23_5 : ACode :=
  .ops [⟨.newbox 4 [.int .u8 0, .slice .nil 0 1 []], (some 4), none⟩] k23_4
def af23 : AFunc := ⟨21, k23_5, [.cell 4 true 2], fun _ _ => none⟩

theorem ok23 : ∃ hs, pFunc Tryd.prog sg hs Tryd.f23 = some af23 := ⟨fun i => if i == 9 then 1 else if i == 10 then 1 else if i == 11 then 1 else if i == 12 then 1 else if i == 14 then 1 else if i == 15 then 1 else if i == 16 then 1 else 0, by kernel_rfl⟩
def q11_0 : List AOper :=
  [⟨.load .look true 5 (.p 1), (some 8), none⟩,
 ⟨.call 20 [(.p 8, false)], (some 9), none⟩,
 ⟨.call 19 [(.t 9, false)], (some 10), none⟩,
 ⟨.store 2 (.p 2) (.p 10), none, none⟩]
@[simp] def eq11_0 := id q11_0.eq_1
def q11_1 : List AOper :=
  [⟨.load .look true 5 (.p 1), (some 13), none⟩,
 ⟨.call 22 [(.p 13, false)], (some 14), none⟩,
 ⟨.hcall 21 [(.t 14, false)], (some 15), none⟩,
 ⟨.store 2 (.p 2) (.p 15), none, none⟩]
@[simp] def eq11_1 := id q11_1.eq_1
def q11_2 : List AOper :=
  [⟨.load .look true 5 (.p 1), (some 18), none⟩,
 ⟨.call 24 [(.p 18, false)], (some 19), none⟩,
 ⟨.extract 19 0, (some 20), none⟩,
 ⟨.extract 19 1, (some 21), none⟩,
 ⟨.call 23 [(.t 20, false), (.p 21, false)], (some 22), none⟩,
 ⟨.store 2 (.p 2) (.p 22), none, none⟩]
@[simp] def eq11_2 := id q11_2.eq_1
def q11_3 : List AOper :=
  [⟨.mkIface 9 (.c (.str [105, 110, 118, 97, 108, 105, 100, 32, 86, 101, 99, 116, 111, 114, 32, 100, 97, 116, 97, 32, 116, 121, 112, 101])), (some 5), none⟩,
 ⟨.dead, none, none⟩]
@[simp] def eq11_3 := id q11_3.eq_1
def q11_4 : List AOper :=
  [⟨.bin .eql 1 true (.p 4) (.c (.int .u8 16)), (some 17), none⟩,
 ⟨.assign (.p 17), (some 16), none⟩]
@[simp] def eq11_4 := id q11_4.eq_1
def q11_5 : List AOper :=
  [⟨.bin .eql 1 true (.p 4) (.c (.int .u8 39)), (some 12), none⟩,
 ⟨.assign (.p 12), (some 11), none⟩]
@[simp] def eq11_5 := id q11_5.eq_1
def q11_6 : List AOper :=
  [⟨.bin .eql 1 true (.p 4) (.c (.int .u8 3)), (some 7), none⟩,
 ⟨.assign (.p 7), (some 6), none⟩]
@[simp] def eq11_6 := id q11_6.eq_1
def q11_7 : List AOper :=
  [⟨.load .look true 5 (.p 1), (some 3), none⟩,
 ⟨.call 14 [(.p 3, false)], (some 4), none⟩]
@[simp] def eq11_7 := id q11_7.eq_1
def q11_8 : List AOper :=
  [⟨.box 1 (.p 0), (some 1), none⟩,
 ⟨.newbox 2 [.int .u8 0, .slice .nil 0 1 []], (some 2), none⟩]
@[simp] def eq11_8 := id q11_8.eq_1
def k11_0 : ACode :=
  .ops q11_0 .ret
def k11_1 : ACode :=
  .ops q11_1 .ret
@[simp] def xk11_1 := @xOps _ _ _ k11_1.eq_1
def k11_2 : ACode :=
  .ops q11_2 .ret
def k11_3 : ACode :=
  .ops q11_3 .skip
def k11_4 : ACode :=
  .cond (.p 16) k11_2 k11_3
def k11_5 : ACode :=
  .ops q11_4 k11_4
def k11_6 : ACode :=
  .cond (.p 11) k11_1 k11_5
@[simp] def xk11_6 := @xCond _ _ _ _ k11_6.eq_1
def k11_7 : ACode :=
  .ops q11_5 k11_6
@[simp] def xk11_7 := @xOps _ _ _ k11_7.eq_1
def k11_8 : ACode :=
  .cond (.p 6) k11_0 k11_7
@[simp] def xk11_8 := @xCond _ _ _ _ k11_8.eq_1
def k11_9 : ACode :=
  .ops q11_6 k11_8
@[simp] def xk11_9 := @xOps _ _ _ k11_9.eq_1
def k11_10 : ACode :=
  .block 0 k11_9
@[simp] def xk11_10 := @xBlock _ _ _ k11_10.eq_1
def k11_11 : ACode :=
  .seq k11_10 .ret
@[simp] def xk11_11 := @xSeq _ _ _ k11_11.eq_1
def k11_12 : ACode :=
  .ops q11_7 k11_11
@[simp] def xk11_12 := @xOps _ _ _ k11_12.eq_1
def k11_13 : ACode :=
  .ops q11_8 k11_12
@[simp] def xk11_13 := @xOps _ _ _ k11_13.eq_1
def af11 : AFunc := ⟨23, k11_13, [.cell 2 true 2], fun _ _ => none⟩

theorem ok11 : ∃ hs, pFunc Tryd.prog sg hs Tryd.f11 = some af11 := ⟨fun i => 0, by kernel_rfl⟩
def q12_0 : List AOper :=
  [⟨.move .look (.t 0), (some 3), none⟩,
 ⟨.append 5 1 1 false (.c (.slice .nil 0 1 [])) (.p 3), (some 4), none⟩,
 ⟨.assign (.t 4), (some 2), none⟩]
@[simp] def eq12_0 := id q12_0.eq_1
def k12_0 : ACode :=
  .ops q12_0 .ret
@[simp] def xk12_0 := @xOps _ _ _ k12_0.eq_1
def k12_1 : ACode :=
  .ops [⟨.assign (.c (.slice .nil 0 1 [])), (some 2), none⟩] k12_0
@[simp] def xk12_1 := @xOps _ _ _ k12_1.eq_1
def af12 : AFunc := ⟨5, k12_1, [.tmp 2], fun _ _ => none⟩

theorem ok12 : ∃ hs, pFunc Tryd.prog sg hs Tryd.f12 = some af12 := ⟨fun i => 0, by kernel_rfl⟩
def q4_0 : List AOper :=
  [⟨.fieldAddr 0 (.p 7), (some 23), none⟩,
 ⟨.load .look false 1 (.p 23), (some 24), none⟩,
 ⟨.convInt .i64 (.p 24), (some 25), none⟩,
 ⟨.fieldAddr 1 (.p 7), (some 26), none⟩,
 ⟨.load .look false 1 (.p 26), (some 27), none⟩,
 ⟨.call 12 [(.t 27, false)], (some 28), none⟩,
 ⟨.assign (.p 25), (some 2), none⟩,
 ⟨.assign (.t 28), (some 3), none⟩]
@[simp] def eq4_0 := id q4_0.eq_1
def q4_1 : List AOper :=
  [⟨.move .look (.t 4), (some 20), none⟩,
 ⟨.hcall 10 [(.t 20, false)], (some 21), none⟩,
 ⟨.hcall 11 [(.p 21, false)], (some 22), none⟩,
 ⟨.newbox 7 [.int .u8 0, .slice .nil 0 1 []], (some 7), none⟩,
 ⟨.store 2 (.p 7) (.p 22), none, none⟩]
@[simp] def eq4_1 := id q4_1.eq_1
def q4_2 : List AOper :=
  [⟨.bin .add 1 true (.p 10) (.c (.int .i64 1)), (some 19), none⟩,
 ⟨.move .look (.p 19), (some 10), none⟩]
@[simp] def eq4_2 := id q4_2.eq_1
def q4_3 : List AOper :=
  [⟨.move .take (.t 4), (some 14), none⟩,
 ⟨.move .look (.p 6), (some 15), none⟩,
 ⟨.px (.fb 3) [.p 15], (some 16), none⟩,
 ⟨.buildSl 38 1 [.flt .f32 0] [(0, 1, .p 16)], (some 17), none⟩,
 ⟨.append 38 1 4 false (.t 14) (.p 17), (some 18), none⟩,
 ⟨.assign (.t 18), (some 4), none⟩]
@[simp] def eq4_3 := id q4_3.eq_1
def q4_4 : List AOper :=
  [⟨.indexAddr 1 (.t 8) (.p 10), (some 12), none⟩,
 ⟨.load .take false 1 (.p 12), (some 13), none⟩,
 ⟨.assign (.p 13), (some 6), none⟩]
@[simp] def eq4_4 := id q4_4.eq_1
def q4_5 : List AOper :=
  [⟨.move .look (.t 0), (some 8), none⟩,
 ⟨.len false (.p 8), (some 9), none⟩,
 ⟨.move .head (.c (.int .i64 0)), (some 10), none⟩]
@[simp] def eq4_5 := id q4_5.eq_1
def q4_6 : List AOper :=
  [⟨.assign (.c (.int .i64 0)), (some 2), none⟩,
 ⟨.assign (.c (.slice .nil 0 1 [])), (some 3), none⟩]
@[simp] def eq4_6 := id q4_6.eq_1
def k4_0 : ACode :=
  .ops q4_0 .ret
@[simp] def xk4_0 := @xOps _ _ _ k4_0.eq_1
def k4_1 : ACode :=
  .ops q4_1 k4_0
@[simp] def xk4_1 := @xOps _ _ _ k4_1.eq_1
def k4_2 : ACode :=
  .ops q4_2 .skip
@[simp] def xk4_2 := @xOps _ _ _ k4_2.eq_1
def k4_3 : ACode :=
  .ops q4_3 .skip
@[simp] def xk4_3 := @xOps _ _ _ k4_3.eq_1
def k4_4 : ACode :=
  .ops q4_4 k4_3
@[simp] def xk4_4 := @xOps _ _ _ k4_4.eq_1
def k4_5 : ACode :=
  .block 1 k4_4
@[simp] def xk4_5 := @xBlock _ _ _ k4_5.eq_1
def k4_6 : ACode :=
  .seq k4_5 k4_2
@[simp] def xk4_6 := @xSeq _ _ _ k4_6.eq_1
def k4_7 : ACode :=
  .cond (.p 11) .skip (.exit 0)
@[simp] def xk4_7 := @xCond _ _ _ _ k4_7.eq_1
def k4_8 : ACode :=
  .seq k4_7 k4_6
@[simp] def xk4_8 := @xSeq _ _ _ k4_8.eq_1
def k4_9 : ACode :=
  .ops [⟨.bin .lss 1 false (.p 10) (.p 9), (some 11), none⟩] k4_8
@[simp] def xk4_9 := @xOps _ _ _ k4_9.eq_1
def lc4_0 : ACode :=
  k4_9
@[simp] def xlc4_0 := @xSame _ _ lc4_0.eq_1
def k4_11 : ACode :=
  .loop lc4_0
@[simp] def xk4_11 := @xLoop _ _ k4_11.eq_1
def k4_12 : ACode :=
  .block 0 k4_11
@[simp] def xk4_12 := @xBlock _ _ _ k4_12.eq_1
def k4_13 : ACode :=
  .seq k4_12 k4_1
@[simp] def xk4_13 := @xSeq _ _ _ k4_13.eq_1
def k4_14 : ACode :=
  .ops q4_5 k4_13
@[simp] def xk4_14 := @xOps _ _ _ k4_14.eq_1
def k4_15 : ACode :=
  .ops [⟨.assign (.c (.slice .nil 0 1 [])), (some 4), none⟩] k4_14
@[simp] def xk4_15 := @xOps _ _ _ k4_15.eq_1
def k4_16 : ACode :=
  .ops q4_6 k4_15
@[simp] def xk4_16 := @xOps _ _ _ k4_16.eq_1
def af4 : AFunc := ⟨29, k4_16, [.tmp 2, .tmp 3], fun _ _ => none⟩

theorem ok4 : ∃ hs, pFunc Tryd.prog sg hs Tryd.f4 = some af4 := ⟨fun i => if i == 8 then 5 else 0, by kernel_rfl⟩
def q25_0 : List AOper :=
  [⟨.move .look (.p 0), (some 3), none⟩,
 ⟨.build [.str []] [(0, 1, .p 3)], (some 4), none⟩,
 ⟨.boxobj (.p 4), (some 5), none⟩,
 ⟨.mkIface 75 (.p 5), (some 6), none⟩,
 ⟨.assign (.p 6), (some 2), none⟩]
@[simp] def eq25_0 := id q25_0.eq_1
def k25_0 : ACode :=
  .ops q25_0 .ret
def k25_1 : ACode :=
  .ops [⟨.assign (.c (.nilI)), (some 2), none⟩] k25_0
def af25 : AFunc := ⟨7, k25_1, [.tmp 2], fun _ _ => none⟩

theorem ok25 : ∃ hs, pFunc Tryd.prog sg hs Tryd.f25 = some af25 := ⟨fun i => if i == 5 then 1 else 0, by kernel_rfl⟩
def q30_0 : List AOper :=
  [⟨.load .take true 5 (.p 3), (some 34), none⟩,
 ⟨.store 5 (.p 2) (.p 34), none, none⟩]
@[simp] def eq30_0 := id q30_0.eq_1
def q30_1 : List AOper :=
  [⟨.fieldAddr 1 (.p 3), (some 18), none⟩,
 ⟨.load .look false 1 (.p 18), (some 19), none⟩,
 ⟨.move .look (.t 4), (some 20), none⟩,
 ⟨.copyB 1 false (.m 19) (.p 20), (some 21), none⟩]
@[simp] def eq30_1 := id q30_1.eq_1
def q30_2 : List AOper :=
  [⟨.move .head (.t 0), (some 14), none⟩,
 ⟨.len false (.p 14), (some 15), none⟩,
 ⟨.mkSl false 59 1 1 [.int .i8 0] (.p 15) (.p 15), (some 16), none⟩,
 ⟨.fieldAddr 1 (.p 3), (some 17), none⟩,
 ⟨.store 1 (.p 17) (.t 16), none, none⟩]
@[simp] def eq30_2 := id q30_2.eq_1
def q30_3 : List AOper :=
  [⟨.fieldAddr 0 (.p 3), (some 13), none⟩,
 ⟨.store 1 (.p 13) (.c (.int .u8 3)), none, none⟩]
@[simp] def eq30_3 := id q30_3.eq_1
def q30_4 : List AOper :=
  [⟨.fieldAddr 2 (.p 3), (some 30), none⟩,
 ⟨.load .look false 1 (.p 30), (some 31), none⟩,
 ⟨.move .look (.t 5), (some 32), none⟩,
 ⟨.copyB 1 false (.m 31) (.p 32), (some 33), none⟩]
@[simp] def eq30_4 := id q30_4.eq_1
def q30_5 : List AOper :=
  [⟨.move .head (.t 0), (some 26), none⟩,
 ⟨.len false (.p 26), (some 27), none⟩,
 ⟨.mkSl false 38 1 4 [.flt .f32 0] (.p 27) (.p 27), (some 28), none⟩,
 ⟨.fieldAddr 2 (.p 3), (some 29), none⟩,
 ⟨.store 1 (.p 29) (.t 28), none, none⟩]
@[simp] def eq30_5 := id q30_5.eq_1
def q30_6 : List AOper :=
  [⟨.fieldAddr 0 (.p 3), (some 25), none⟩,
 ⟨.store 1 (.p 25) (.c (.int .u8 39)), none, none⟩]
@[simp] def eq30_6 := id q30_6.eq_1
def q30_7 : List AOper :=
  [⟨.mkIface 9 (.c (.str [117, 110, 115, 117, 112, 112, 111, 114, 116, 101, 100, 32, 116, 121, 112, 101])), (some 9), none⟩,
 ⟨.dead, none, none⟩]
@[simp] def eq30_7 := id q30_7.eq_1
def q30_8 : List AOper :=
  [⟨.px (.tassert 37 (.slice .nil 0 1 []) true) [.p 8], (some 22), none⟩,
 ⟨.extract 22 1, (some 23), none⟩,
 ⟨.extract 22 0, (some 24), none⟩]
@[simp] def eq30_8 := id q30_8.eq_1
def q30_9 : List AOper :=
  [⟨.px (.tassert 25 (.slice .nil 0 1 []) true) [.p 8], (some 10), none⟩,
 ⟨.extract 10 1, (some 11), none⟩,
 ⟨.extract 10 0, (some 12), none⟩]
@[simp] def eq30_9 := id q30_9.eq_1
def q30_10 : List AOper :=
  [⟨.move .look (.t 0), (some 7), none⟩,
 ⟨.mkIface 25 (.t 7), (some 8), none⟩]
@[simp] def eq30_10 := id q30_10.eq_1
def k30_0 : ACode :=
  .ops q30_0 .ret
def k30_1 : ACode :=
  .ops q30_1 .skip
def k30_2 : ACode :=
  .ops q30_2 k30_1
def k30_3 : ACode :=
  .ops q30_3 k30_2
def k30_4 : ACode :=
  .ops [⟨.assign (.t 12), (some 4), none⟩] k30_3
def k30_5 : ACode :=
  .ops q30_4 .skip
def k30_6 : ACode :=
  .ops q30_5 k30_5
def k30_7 : ACode :=
  .ops q30_6 k30_6
def k30_8 : ACode :=
  .ops [⟨.assign (.t 24), (some 5), none⟩] k30_7
def k30_9 : ACode :=
  .ops q30_7 .skip
def k30_10 : ACode :=
  .ops [⟨.assign (.p 8), (some 6), none⟩] k30_9
def k30_11 : ACode :=
  .cond (.p 23) k30_8 k30_10
def k30_12 : ACode :=
  .ops q30_8 k30_11
def k30_13 : ACode :=
  .cond (.p 11) k30_4 k30_12
def k30_14 : ACode :=
  .ops q30_9 k30_13
def k30_15 : ACode :=
  .block 0 k30_14
def k30_16 : ACode :=
  .seq k30_15 k30_0
def k30_17 : ACode :=
  .ops q30_10 k30_16
def k30_18 : ACode :=
  .ops [⟨.newbox 3 [.int .u8 0, .slice .nil 0 1 [], .slice .nil 0 1 [], .slice .nil 0 1 [], .int .u8 0], (some 3), none⟩] k30_17
def k30_19 : ACode :=
  .ops [⟨.newbox 2 [.int .u8 0, .slice .nil 0 1 [], .slice .nil 0 1 [], .slice .nil 0 1 [], .int .u8 0], (some 2), none⟩] k30_18
def af30 : AFunc := ⟨35, k30_19, [.cell 2 true 5], fun _ _ => none⟩

theorem ok30 : ∃ hs, pFunc Tryd.prog sg hs Tryd.f30 = some af30 := ⟨fun i => 0, by kernel_rfl⟩
def q26_0 : List AOper :=
  [⟨.move .look (.t 6), (some 38), none⟩,
 ⟨.call 30 [(.t 38, false)], (some 39), none⟩,
 ⟨.store 5 (.p 2) (.p 39), none, none⟩,
 ⟨.assign (.c (.nilI)), (some 3), none⟩]
@[simp] def eq26_0 := id q26_0.eq_1
def q26_1 : List AOper :=
  [⟨.move .look (.p 7), (some 28), none⟩,
 ⟨.bin .add 1 true (.p 28) (.c (.int .i64 1)), (some 29), none⟩,
 ⟨.assign (.p 29), (some 7), none⟩]
@[simp] def eq26_1 := id q26_1.eq_1
def q26_2 : List AOper :=
  [⟨.move .take (.t 6), (some 30), none⟩,
 ⟨.move .look (.t 0), (some 31), none⟩,
 ⟨.move .look (.p 7), (some 32), none⟩,
 ⟨.indexAddr 1 (.t 31) (.p 32), (some 33), none⟩,
 ⟨.load .look false 1 (.p 33), (some 34), none⟩,
 ⟨.convInt .i8 (.p 34), (some 35), none⟩,
 ⟨.buildSl 59 1 [.int .i8 0] [(0, 1, .p 35)], (some 36), none⟩,
 ⟨.append 59 1 1 false (.t 30) (.p 36), (some 37), none⟩,
 ⟨.assign (.t 37), (some 6), none⟩]
@[simp] def eq26_2 := id q26_2.eq_1
def q26_3 : List AOper :=
  [⟨.move .look (.p 7), (some 24), none⟩,
 ⟨.move .head (.t 0), (some 25), none⟩,
 ⟨.len false (.p 25), (some 26), none⟩,
 ⟨.bin .lss 1 false (.p 24) (.p 26), (some 27), none⟩]
@[simp] def eq26_3 := id q26_3.eq_1
def q26_4 : List AOper :=
  [⟨.move .head (.t 0), (some 20), none⟩,
 ⟨.len false (.p 20), (some 21), none⟩,
 ⟨.bin .sub 1 true (.p 21) (.c (.int .i64 1)), (some 22), none⟩,
 ⟨.mkSl false 59 1 1 [.int .i8 0] (.c (.int .i64 0)) (.p 22), (some 23), none⟩,
 ⟨.assign (.t 23), (some 6), none⟩]
@[simp] def eq26_4 := id q26_4.eq_1
def q26_5 : List AOper :=
  [⟨.load .take true 5 (.p 4), (some 18), none⟩,
 ⟨.load .take false 1 (.c (.gl 3)), (some 19), none⟩,
 ⟨.store 5 (.p 2) (.p 18), none, none⟩,
 ⟨.assign (.p 19), (some 3), none⟩]
@[simp] def eq26_5 := id q26_5.eq_1
def q26_6 : List AOper :=
  [⟨.move .look (.p 5), (some 16), none⟩,
 ⟨.bin .gtr 1 true (.p 16) (.c (.int .u8 0)), (some 17), none⟩]
@[simp] def eq26_6 := id q26_6.eq_1
def q26_7 : List AOper :=
  [⟨.move .look (.t 0), (some 13), none⟩,
 ⟨.indexAddr 1 (.t 13) (.c (.int .i64 0)), (some 14), none⟩,
 ⟨.load .take false 1 (.p 14), (some 15), none⟩,
 ⟨.assign (.p 15), (some 5), none⟩]
@[simp] def eq26_7 := id q26_7.eq_1
def q26_8 : List AOper :=
  [⟨.load .take true 5 (.p 4), (some 11), none⟩,
 ⟨.load .take false 1 (.c (.gl 1)), (some 12), none⟩,
 ⟨.store 5 (.p 2) (.p 11), none, none⟩,
 ⟨.assign (.p 12), (some 3), none⟩]
@[simp] def eq26_8 := id q26_8.eq_1
def q26_9 : List AOper :=
  [⟨.move .head (.t 0), (some 8), none⟩,
 ⟨.len false (.p 8), (some 9), none⟩,
 ⟨.bin .eql 1 true (.p 9) (.c (.int .i64 0)), (some 10), none⟩]
@[simp] def eq26_9 := id q26_9.eq_1
def q26_10 : List AOper :=
  [⟨.newbox 2 [.int .u8 0, .slice .nil 0 1 [], .slice .nil 0 1 [], .slice .nil 0 1 [], .int .u8 0], (some 2), none⟩,
 ⟨.assign (.c (.nilI)), (some 3), none⟩]
@[simp] def eq26_10 := id q26_10.eq_1
def k26_0 : ACode :=
  .ops q26_0 .ret
def k26_1 : ACode :=
  .ops q26_1 .skip
def k26_2 : ACode :=
  .ops q26_2 .skip
def k26_3 : ACode :=
  .block 1 k26_2
def k26_4 : ACode :=
  .seq k26_3 k26_1
def k26_5 : ACode :=
  .cond (.p 27) .skip (.exit 0)
def k26_6 : ACode :=
  .seq k26_5 k26_4
def k26_7 : ACode :=
  .ops q26_3 k26_6
def lc26_0 : ACode :=
  k26_7
@[simp] def xlc26_0 := @xSame _ _ lc26_0.eq_1
def k26_9 : ACode :=
  .loop lc26_0
def k26_10 : ACode :=
  .block 0 k26_9
def k26_11 : ACode :=
  .seq k26_10 k26_0
def k26_12 : ACode :=
  .ops [⟨.assign (.c (.int .i64 1)), (some 7), none⟩] k26_11
def k26_13 : ACode :=
  .ops q26_4 k26_12
def k26_14 : ACode :=
  .ops q26_5 .ret
def k26_15 : ACode :=
  .cond (.p 17) k26_14 .skip
def k26_16 : ACode :=
  .seq k26_15 k26_13
def k26_17 : ACode :=
  .ops q26_6 k26_16
def k26_18 : ACode :=
  .ops q26_7 k26_17
def k26_19 : ACode :=
  .ops q26_8 .ret
def k26_20 : ACode :=
  .cond (.p 10) k26_19 .skip
def k26_21 : ACode :=
  .seq k26_20 k26_18
def k26_22 : ACode :=
  .ops q26_9 k26_21
def k26_23 : ACode :=
  .ops [⟨.newbox 4 [.int .u8 0, .slice .nil 0 1 [], .slice .nil 0 1 [], .slice .nil 0 1 [], .int .u8 0], (some 4), none⟩] k26_22
def k26_24 : ACode :=
  .ops q26_10 k26_23
def af26 : AFunc := ⟨40, k26_24, [.cell 2 true 5, .tmp 3], fun _ _ => none⟩

theorem ok26 : ∃ hs, pFunc Tryd.prog sg hs Tryd.f26 = some af26 := ⟨fun i => 0, by kernel_rfl⟩
def q31_0 : List AOper :=
  [⟨.move .look (.t 1), (some 8), none⟩,
 ⟨.indexAddr 1 (.t 8) (.c (.int .i64 0)), (some 9), none⟩,
 ⟨.load .look false 1 (.p 9), (some 10), none⟩,
 ⟨.convInt .u32 (.p 10), (some 11), none⟩,
 ⟨.move .look (.t 1), (some 12), none⟩,
 ⟨.indexAddr 1 (.t 12) (.c (.int .i64 1)), (some 13), none⟩,
 ⟨.load .look false 1 (.p 13), (some 14), none⟩,
 ⟨.convInt .u32 (.p 14), (some 15), none⟩,
 ⟨.bin .shl 1 true (.p 15) (.c (.int .u64 8)), (some 16), none⟩,
 ⟨.bin .or 1 false (.p 11) (.p 16), (some 17), none⟩,
 ⟨.move .look (.t 1), (some 18), none⟩,
 ⟨.indexAddr 1 (.t 18) (.c (.int .i64 2)), (some 19), none⟩,
 ⟨.load .look false 1 (.p 19), (some 20), none⟩,
 ⟨.convInt .u32 (.p 20), (some 21), none⟩,
 ⟨.bin .shl 1 true (.p 21) (.c (.int .u64 16)), (some 22), none⟩,
 ⟨.bin .or 1 false (.p 17) (.p 22), (some 23), none⟩,
 ⟨.move .look (.t 1), (some 24), none⟩,
 ⟨.indexAddr 1 (.t 24) (.c (.int .i64 3)), (some 25), none⟩,
 ⟨.load .look false 1 (.p 25), (some 26), none⟩,
 ⟨.convInt .u32 (.p 26), (some 27), none⟩,
 ⟨.bin .shl 1 true (.p 27) (.c (.int .u64 24)), (some 28), none⟩,
 ⟨.bin .or 1 false (.p 23) (.p 28), (some 29), none⟩,
 ⟨.assign (.p 29), (some 4), none⟩]
@[simp] def eq31_0 := id q31_0.eq_1
def q31_1 : List AOper :=
  [⟨.move .look (.t 1), (some 5), none⟩,
 ⟨.indexAddr 1 (.t 5) (.c (.int .i64 3)), (some 6), none⟩,
 ⟨.load .head false 1 (.p 6), (some 7), none⟩]
@[simp] def eq31_1 := id q31_1.eq_1
def q31_2 : List AOper :=
  [⟨.box 2 (.p 0), (some 2), none⟩,
 ⟨.assign (.c (.int .u32 0)), (some 4), none⟩]
@[simp] def eq31_2 := id q31_2.eq_1
def k31_0 : ACode :=
  .ops q31_0 .ret
@[simp] def xk31_0 := @xOps _ _ _ k31_0.eq_1
def k31_1 : ACode :=
  .ops q31_1 k31_0
@[simp] def xk31_1 := @xOps _ _ _ k31_1.eq_1
def k31_2 : ACode :=
  .ops q31_2 k31_1
@[simp] def xk31_2 := @xOps _ _ _ k31_2.eq_1
def af31 : AFunc := ⟨30, k31_2, [.tmp 4], fun _ _ => none⟩

theorem ok31 : ∃ hs, pFunc Tryd.prog sg hs Tryd.f31 = some af31 := ⟨fun i => 0, by kernel_rfl⟩
def q27_0 : List AOper :=
  [⟨.move .look (.t 7), (some 52), none⟩,
 ⟨.hcall 10 [(.t 52, false)], (some 53), none⟩,
 ⟨.store 5 (.p 2) (.p 53), none, none⟩,
 ⟨.assign (.c (.nilI)), (some 3), none⟩]
@[simp] def eq27_0 := id q27_0.eq_1
def q27_1 : List AOper :=
  [⟨.move .look (.p 8), (some 39), none⟩,
 ⟨.bin .add 1 true (.p 39) (.c (.int .i64 4)), (some 40), none⟩,
 ⟨.assign (.p 40), (some 8), none⟩]
@[simp] def eq27_1 := id q27_1.eq_1
def q27_2 : List AOper :=
  [⟨.move .take (.t 7), (some 41), none⟩,
 ⟨.load .look true 0 (.c (.gl 2)), (some 42), none⟩,
 ⟨.move .look (.t 0), (some 43), none⟩,
 ⟨.move .head (.p 8), (some 44), none⟩,
 ⟨.move .look (.p 8), (some 45), none⟩,
 ⟨.bin .add 1 true (.p 45) (.c (.int .i64 4)), (some 46), none⟩,
 ⟨.sliceSl 1 (.t 43) (some (.p 44)) (some (.p 46)), (some 47), none⟩,
 ⟨.call 31 [(.p 42, false), (.t 47, false)], (some 48), none⟩,
 ⟨.px (.fb 3) [.p 48], (some 49), none⟩,
 ⟨.buildSl 38 1 [.flt .f32 0] [(0, 1, .p 49)], (some 50), none⟩,
 ⟨.append 38 1 4 false (.t 41) (.p 50), (some 51), none⟩,
 ⟨.assign (.t 51), (some 7), none⟩]
@[simp] def eq27_2 := id q27_2.eq_1
def q27_3 : List AOper :=
  [⟨.move .look (.p 8), (some 35), none⟩,
 ⟨.move .head (.t 0), (some 36), none⟩,
 ⟨.len false (.p 36), (some 37), none⟩,
 ⟨.bin .lss 1 false (.p 35) (.p 37), (some 38), none⟩]
@[simp] def eq27_3 := id q27_3.eq_1
def q27_4 : List AOper :=
  [⟨.move .look (.p 6), (some 33), none⟩,
 ⟨.mkSl false 38 1 4 [.flt .f32 0] (.c (.int .i64 0)) (.p 33), (some 34), none⟩,
 ⟨.assign (.t 34), (some 7), none⟩]
@[simp] def eq27_4 := id q27_4.eq_1
def q27_5 : List AOper :=
  [⟨.load .take true 5 (.p 4), (some 31), none⟩,
 ⟨.load .take false 1 (.c (.gl 1)), (some 32), none⟩,
 ⟨.store 5 (.p 2) (.p 31), none, none⟩,
 ⟨.assign (.p 32), (some 3), none⟩]
@[simp] def eq27_5 := id q27_5.eq_1
def q27_6 : List AOper :=
  [⟨.move .look (.p 6), (some 25), none⟩,
 ⟨.bin .mul 1 true (.p 25) (.c (.int .i64 4)), (some 26), none⟩,
 ⟨.move .head (.t 0), (some 27), none⟩,
 ⟨.len false (.p 27), (some 28), none⟩,
 ⟨.bin .sub 1 true (.p 28) (.c (.int .i64 1)), (some 29), none⟩,
 ⟨.bin .neq 1 false (.p 26) (.p 29), (some 30), none⟩]
@[simp] def eq27_6 := id q27_6.eq_1
def q27_7 : List AOper :=
  [⟨.move .head (.t 0), (some 21), none⟩,
 ⟨.len false (.p 21), (some 22), none⟩,
 ⟨.bin .sub 1 true (.p 22) (.c (.int .i64 1)), (some 23), none⟩,
 ⟨.bin .quo 1 true (.p 23) (.c (.int .i64 4)), (some 24), none⟩,
 ⟨.assign (.p 24), (some 6), none⟩]
@[simp] def eq27_7 := id q27_7.eq_1
def q27_8 : List AOper :=
  [⟨.load .take true 5 (.p 4), (some 19), none⟩,
 ⟨.load .take false 1 (.c (.gl 3)), (some 20), none⟩,
 ⟨.store 5 (.p 2) (.p 19), none, none⟩,
 ⟨.assign (.p 20), (some 3), none⟩]
@[simp] def eq27_8 := id q27_8.eq_1
def q27_9 : List AOper :=
  [⟨.move .look (.p 5), (some 17), none⟩,
 ⟨.bin .gtr 1 true (.p 17) (.c (.int .u8 0)), (some 18), none⟩]
@[simp] def eq27_9 := id q27_9.eq_1
def q27_10 : List AOper :=
  [⟨.move .look (.t 0), (some 14), none⟩,
 ⟨.indexAddr 1 (.t 14) (.c (.int .i64 0)), (some 15), none⟩,
 ⟨.load .take false 1 (.p 15), (some 16), none⟩,
 ⟨.assign (.p 16), (some 5), none⟩]
@[simp] def eq27_10 := id q27_10.eq_1
def q27_11 : List AOper :=
  [⟨.load .take true 5 (.p 4), (some 12), none⟩,
 ⟨.load .take false 1 (.c (.gl 1)), (some 13), none⟩,
 ⟨.store 5 (.p 2) (.p 12), none, none⟩,
 ⟨.assign (.p 13), (some 3), none⟩]
@[simp] def eq27_11 := id q27_11.eq_1
def q27_12 : List AOper :=
  [⟨.move .head (.t 0), (some 9), none⟩,
 ⟨.len false (.p 9), (some 10), none⟩,
 ⟨.bin .eql 1 true (.p 10) (.c (.int .i64 0)), (some 11), none⟩]
@[simp] def eq27_12 := id q27_12.eq_1
def q27_13 : List AOper :=
  [⟨.newbox 2 [.int .u8 0, .slice .nil 0 1 [], .slice .nil 0 1 [], .slice .nil 0 1 [], .int .u8 0], (some 2), none⟩,
 ⟨.assign (.c (.nilI)), (some 3), none⟩]
@[simp] def eq27_13 := id q27_13.eq_1
def k27_0 : ACode :=
  .ops q27_0 .ret
@[simp] def xk27_0 := @xOps _ _ _ k27_0.eq_1
def k27_1 : ACode :=
  .ops q27_1 .skip
@[simp] def xk27_1 := @xOps _ _ _ k27_1.eq_1
def k27_2 : ACode :=
  .ops q27_2 .skip
@[simp] def xk27_2 := @xOps _ _ _ k27_2.eq_1
def k27_3 : ACode :=
  .block 1 k27_2
@[simp] def xk27_3 := @xBlock _ _ _ k27_3.eq_1
def k27_4 : ACode :=
  .seq k27_3 k27_1
@[simp] def xk27_4 := @xSeq _ _ _ k27_4.eq_1
def k27_5 : ACode :=
  .cond (.p 38) .skip (.exit 0)
@[simp] def xk27_5 := @xCond _ _ _ _ k27_5.eq_1
def k27_6 : ACode :=
  .seq k27_5 k27_4
@[simp] def xk27_6 := @xSeq _ _ _ k27_6.eq_1
def k27_7 : ACode :=
  .ops q27_3 k27_6
@[simp] def xk27_7 := @xOps _ _ _ k27_7.eq_1
def lc27_0 : ACode :=
  k27_7
@[simp] def xlc27_0 := @xSame _ _ lc27_0.eq_1
def k27_9 : ACode :=
  .loop lc27_0
@[simp] def xk27_9 := @xLoop _ _ k27_9.eq_1
def k27_10 : ACode :=
  .block 0 k27_9
@[simp] def xk27_10 := @xBlock _ _ _ k27_10.eq_1
def k27_11 : ACode :=
  .seq k27_10 k27_0
@[simp] def xk27_11 := @xSeq _ _ _ k27_11.eq_1
def k27_12 : ACode :=
  .ops [⟨.assign (.c (.int .i64 1)), (some 8), none⟩] k27_11
@[simp] def xk27_12 := @xOps _ _ _ k27_12.eq_1
def k27_13 : ACode :=
  .ops q27_4 k27_12
@[simp] def xk27_13 := @xOps _ _ _ k27_13.eq_1
def k27_14 : ACode :=
  .ops q27_5 .ret
def k27_15 : ACode :=
  .cond (.p 30) k27_14 .skip
@[simp] def xk27_15 := @xCond _ _ _ _ k27_15.eq_1
def k27_16 : ACode :=
  .seq k27_15 k27_13
@[simp] def xk27_16 := @xSeq _ _ _ k27_16.eq_1
def k27_17 : ACode :=
  .ops q27_6 k27_16
@[simp] def xk27_17 := @xOps _ _ _ k27_17.eq_1
def k27_18 : ACode :=
  .ops q27_7 k27_17
@[simp] def xk27_18 := @xOps _ _ _ k27_18.eq_1
def k27_19 : ACode :=
  .ops q27_8 .ret
def k27_20 : ACode :=
  .cond (.p 18) k27_19 .skip
@[simp] def xk27_20 := @xCond _ _ _ _ k27_20.eq_1
def k27_21 : ACode :=
  .seq k27_20 k27_18
@[simp] def xk27_21 := @xSeq _ _ _ k27_21.eq_1
def k27_22 : ACode :=
  .ops q27_9 k27_21
@[simp] def xk27_22 := @xOps _ _ _ k27_22.eq_1
def k27_23 : ACode :=
  .ops q27_10 k27_22
@[simp] def xk27_23 := @xOps _ _ _ k27_23.eq_1
def k27_24 : ACode :=
  .ops q27_11 .ret
def k27_25 : ACode :=
  .cond (.p 11) k27_24 .skip
@[simp] def xk27_25 := @xCond _ _ _ _ k27_25.eq_1
def k27_26 : ACode :=
  .seq k27_25 k27_23
@[simp] def xk27_26 := @xSeq _ _ _ k27_26.eq_1
def k27_27 : ACode :=
  .ops q27_12 k27_26
@[simp] def xk27_27 := @xOps _ _ _ k27_27.eq_1
def k27_28 : ACode :=
  .ops [⟨.newbox 4 [.int .u8 0, .slice .nil 0 1 [], .slice .nil 0 1 [], .slice .nil 0 1 [], .int .u8 0], (some 4), none⟩] k27_27
@[simp] def xk27_28 := @xOps _ _ _ k27_28.eq_1
def k27_29 : ACode :=
  .ops q27_13 k27_28
@[simp] def xk27_29 := @xOps _ _ _ k27_29.eq_1
def af27 : AFunc := ⟨54, k27_29, [.cell 2 true 5, .tmp 3], fun _ _ => none⟩

theorem ok27 : ∃ hs, pFunc Tryd.prog sg hs Tryd.f27 = some af27 := ⟨fun i => 0, by kernel_rfl⟩
def q32_0 : List AOper :=
  [⟨.load .take true 5 (.p 6), (some 31), none⟩,
 ⟨.store 5 (.p 4) (.p 31), none, none⟩,
 ⟨.assign (.c (.nilI)), (some 5), none⟩]
@[simp] def eq32_0 := id q32_0.eq_1
def q32_1 : List AOper :=
  [⟨.move .take (.p 1), (some 29), none⟩,
 ⟨.fieldAddr 4 (.p 6), (some 30), none⟩,
 ⟨.store 1 (.p 30) (.p 29), none, none⟩]
@[simp] def eq32_1 := id q32_1.eq_1
def q32_2 : List AOper :=
  [⟨.fieldAddr 3 (.p 6), (some 25), none⟩,
 ⟨.load .look false 1 (.p 25), (some 26), none⟩,
 ⟨.move .look (.t 0), (some 27), none⟩,
 ⟨.copyB 1 false (.m 26) (.p 27), (some 28), none⟩]
@[simp] def eq32_2 := id q32_2.eq_1
def q32_3 : List AOper :=
  [⟨.move .head (.t 0), (some 21), none⟩,
 ⟨.len false (.p 21), (some 22), none⟩,
 ⟨.mkSl false 5 1 1 [.int .u8 0] (.p 22) (.p 22), (some 23), none⟩,
 ⟨.fieldAddr 3 (.p 6), (some 24), none⟩,
 ⟨.store 1 (.p 24) (.t 23), none, none⟩]
@[simp] def eq32_3 := id q32_3.eq_1
def q32_4 : List AOper :=
  [⟨.fieldAddr 0 (.p 6), (some 20), none⟩,
 ⟨.store 1 (.p 20) (.c (.int .u8 16)), none, none⟩]
@[simp] def eq32_4 := id q32_4.eq_1
def q32_5 : List AOper :=
  [⟨.load .take true 5 (.p 6), (some 18), none⟩,
 ⟨.load .take false 1 (.c (.gl 3)), (some 19), none⟩,
 ⟨.store 5 (.p 4) (.p 18), none, none⟩,
 ⟨.assign (.p 19), (some 5), none⟩]
@[simp] def eq32_5 := id q32_5.eq_1
def q32_6 : List AOper :=
  [⟨.move .look (.p 1), (some 11), none⟩,
 ⟨.bin .gtr 1 true (.p 11) (.c (.int .u8 0)), (some 12), none⟩,
 ⟨.move .look (.p 12), (some 13), none⟩,
 ⟨.move .head (.t 0), (some 14), (some (13, true))⟩,
 ⟨.len false (.p 14), (some 15), (some (13, true))⟩,
 ⟨.bin .eql 1 true (.p 15) (.c (.int .i64 0)), (some 16), (some (13, true))⟩,
 ⟨.pick (.p 13) (.p 16) (.c (.bool false)), (some 17), none⟩]
@[simp] def eq32_6 := id q32_6.eq_1
def q32_7 : List AOper :=
  [⟨.load .take true 5 (.p 6), (some 9), none⟩,
 ⟨.load .take false 1 (.c (.gl 4)), (some 10), none⟩,
 ⟨.store 5 (.p 4) (.p 9), none, none⟩,
 ⟨.assign (.p 10), (some 5), none⟩]
@[simp] def eq32_7 := id q32_7.eq_1
def q32_8 : List AOper :=
  [⟨.move .look (.p 1), (some 7), none⟩,
 ⟨.bin .gtr 1 true (.p 7) (.c (.int .u8 7)), (some 8), none⟩]
@[simp] def eq32_8 := id q32_8.eq_1
def q32_9 : List AOper :=
  [⟨.newbox 4 [.int .u8 0, .slice .nil 0 1 [], .slice .nil 0 1 [], .slice .nil 0 1 [], .int .u8 0], (some 4), none⟩,
 ⟨.assign (.c (.nilI)), (some 5), none⟩]
@[simp] def eq32_9 := id q32_9.eq_1
def k32_0 : ACode :=
  .ops q32_0 .ret
def k32_1 : ACode :=
  .ops q32_1 k32_0
def k32_2 : ACode :=
  .ops q32_2 k32_1
def k32_3 : ACode :=
  .ops q32_3 k32_2
def k32_4 : ACode :=
  .ops q32_4 k32_3
def k32_5 : ACode :=
  .ops q32_5 .ret
def k32_6 : ACode :=
  .cond (.p 17) k32_5 .skip
def k32_7 : ACode :=
  .seq k32_6 k32_4
def k32_8 : ACode :=
  .ops q32_6 k32_7
def k32_9 : ACode :=
  .ops q32_7 .ret
def k32_10 : ACode :=
  .cond (.p 8) k32_9 .skip
def k32_11 : ACode :=
  .seq k32_10 k32_8
def k32_12 : ACode :=
  .ops q32_8 k32_11
def k32_13 : ACode :=
  .ops [⟨.newbox 6 [.int .u8 0, .slice .nil 0 1 [], .slice .nil 0 1 [], .slice .nil 0 1 [], .int .u8 0], (some 6), none⟩] k32_12
def k32_14 : ACode :=
  .ops q32_9 k32_13
def af32 : AFunc := ⟨32, k32_14, [.cell 4 true 5, .tmp 5], fun _ _ => none⟩

theorem ok32 : ∃ hs, pFunc Tryd.prog sg hs Tryd.f32 = some af32 := ⟨fun i => 0, by kernel_rfl⟩
def q28_0 : List AOper :=
  [⟨.move .look (.t 0), (some 9), none⟩,
 ⟨.sliceSl 1 (.t 9) (some (.c (.int .i64 1))) none, (some 10), none⟩,
 ⟨.move .look (.t 0), (some 11), none⟩,
 ⟨.indexAddr 1 (.t 11) (.c (.int .i64 0)), (some 12), none⟩,
 ⟨.load .look false 1 (.p 12), (some 13), none⟩,
 ⟨.call 32 [(.t 10, false), (.p 13, false)], (some 14), none⟩,
 ⟨.extract 14 0, (some 15), none⟩,
 ⟨.extract 14 1, (some 16), none⟩,
 ⟨.store 5 (.p 2) (.p 15), none, none⟩,
 ⟨.assign (.p 16), (some 3), none⟩]
@[simp] def eq28_0 := id q28_0.eq_1
def q28_1 : List AOper :=
  [⟨.load .take false 1 (.c (.gl 1)), (some 8), none⟩,
 ⟨.build [.int .u8 0, .slice .nil 0 1 [], .slice .nil 0 1 [], .slice .nil 0 1 [], .int .u8 0] [], (some 7), none⟩,
 ⟨.store 5 (.p 2) (.p 7), none, none⟩,
 ⟨.assign (.p 8), (some 3), none⟩]
@[simp] def eq28_1 := id q28_1.eq_1
def q28_2 : List AOper :=
  [⟨.move .head (.t 0), (some 4), none⟩,
 ⟨.len false (.p 4), (some 5), none⟩,
 ⟨.bin .eql 1 true (.p 5) (.c (.int .i64 0)), (some 6), none⟩]
@[simp] def eq28_2 := id q28_2.eq_1
def q28_3 : List AOper :=
  [⟨.newbox 2 [.int .u8 0, .slice .nil 0 1 [], .slice .nil 0 1 [], .slice .nil 0 1 [], .int .u8 0], (some 2), none⟩,
 ⟨.assign (.c (.nilI)), (some 3), none⟩]
@[simp] def eq28_3 := id q28_3.eq_1
def k28_0 : ACode :=
  .ops q28_0 .ret
def k28_1 : ACode :=
  .ops q28_1 .ret
def k28_2 : ACode :=
  .cond (.p 6) k28_1 .skip
def k28_3 : ACode :=
  .seq k28_2 k28_0
def k28_4 : ACode :=
  .ops q28_2 k28_3
def k28_5 : ACode :=
  .ops q28_3 k28_4
def af28 : AFunc := ⟨17, k28_5, [.cell 2 true 5, .tmp 3], fun _ _ => none⟩

theorem ok28 : ∃ hs, pFunc Tryd.prog sg hs Tryd.f28 = some af28 := ⟨fun i => 0, by kernel_rfl⟩
def q13_0 : List AOper :=
  [⟨.fieldAddr 1 (.p 1), (some 24), none⟩,
 ⟨.load .look false 1 (.p 24), (some 25), none⟩,
 ⟨.sliceSl 1 (.t 25) (some (.c (.int .i64 1))) none, (some 26), none⟩,
 ⟨.call 26 [(.t 26, false)], (some 27), none⟩,
 ⟨.extract 27 0, (some 28), none⟩,
 ⟨.extract 27 1, (some 29), none⟩,
 ⟨.store 5 (.p 2) (.p 28), none, none⟩,
 ⟨.assign (.p 29), (some 3), none⟩]
@[simp] def eq13_0 := id q13_0.eq_1
def q13_1 : List AOper :=
  [⟨.fieldAddr 1 (.p 1), (some 32), none⟩,
 ⟨.load .look false 1 (.p 32), (some 33), none⟩,
 ⟨.sliceSl 1 (.t 33) (some (.c (.int .i64 1))) none, (some 34), none⟩,
 ⟨.hcall 27 [(.t 34, false)], (some 35), none⟩,
 ⟨.extract 35 0, (some 36), none⟩,
 ⟨.extract 35 1, (some 37), none⟩,
 ⟨.store 5 (.p 2) (.p 36), none, none⟩,
 ⟨.assign (.p 37), (some 3), none⟩]
@[simp] def eq13_1 := id q13_1.eq_1
def q13_2 : List AOper :=
  [⟨.fieldAddr 1 (.p 1), (some 40), none⟩,
 ⟨.load .look false 1 (.p 40), (some 41), none⟩,
 ⟨.sliceSl 1 (.t 41) (some (.c (.int .i64 1))) none, (some 42), none⟩,
 ⟨.call 28 [(.t 42, false)], (some 43), none⟩,
 ⟨.extract 43 0, (some 44), none⟩,
 ⟨.extract 43 1, (some 45), none⟩,
 ⟨.store 5 (.p 2) (.p 44), none, none⟩,
 ⟨.assign (.p 45), (some 3), none⟩]
@[simp] def eq13_2 := id q13_2.eq_1
def q13_3 : List AOper :=
  [⟨.bin .eql 1 true (.p 19) (.c (.int .u8 16)), (some 39), none⟩,
 ⟨.assign (.p 39), (some 38), none⟩]
@[simp] def eq13_3 := id q13_3.eq_1
def q13_4 : List AOper :=
  [⟨.bin .eql 1 true (.p 19) (.c (.int .u8 39)), (some 31), none⟩,
 ⟨.assign (.p 31), (some 30), none⟩]
@[simp] def eq13_4 := id q13_4.eq_1
def q13_5 : List AOper :=
  [⟨.bin .eql 1 true (.p 19) (.c (.int .u8 3)), (some 23), none⟩,
 ⟨.assign (.p 23), (some 22), none⟩]
@[simp] def eq13_5 := id q13_5.eq_1
def q13_6 : List AOper :=
  [⟨.fieldAddr 1 (.p 1), (some 16), none⟩,
 ⟨.load .look false 1 (.p 16), (some 17), none⟩,
 ⟨.indexAddr 1 (.t 17) (.c (.int .i64 0)), (some 18), none⟩,
 ⟨.load .head false 1 (.p 18), (some 19), none⟩]
@[simp] def eq13_6 := id q13_6.eq_1
def q13_7 : List AOper :=
  [⟨.load .take true 5 (.p 4), (some 14), none⟩,
 ⟨.load .take false 1 (.c (.gl 1)), (some 15), none⟩,
 ⟨.store 5 (.p 2) (.p 14), none, none⟩,
 ⟨.assign (.p 15), (some 3), none⟩]
@[simp] def eq13_7 := id q13_7.eq_1
def q13_8 : List AOper :=
  [⟨.fieldAddr 1 (.p 1), (some 10), none⟩,
 ⟨.load .head false 1 (.p 10), (some 11), none⟩,
 ⟨.len false (.p 11), (some 12), none⟩,
 ⟨.bin .lss 1 true (.p 12) (.c (.int .i64 2)), (some 13), none⟩]
@[simp] def eq13_8 := id q13_8.eq_1
def q13_9 : List AOper :=
  [⟨.fieldAddr 0 (.p 1), (some 5), none⟩,
 ⟨.load .head false 1 (.p 5), (some 6), none⟩,
 ⟨.bin .neq 1 true (.p 6) (.c (.int .u8 9)), (some 7), none⟩]
@[simp] def eq13_9 := id q13_9.eq_1
def q13_10 : List AOper :=
  [⟨.box 1 (.p 0), (some 1), none⟩,
 ⟨.newbox 2 [.int .u8 0, .slice .nil 0 1 [], .slice .nil 0 1 [], .slice .nil 0 1 [], .int .u8 0], (some 2), none⟩,
 ⟨.assign (.c (.nilI)), (some 3), none⟩]
@[simp] def eq13_10 := id q13_10.eq_1
def k13_0 : ACode :=
  .ops q13_0 .ret
def k13_1 : ACode :=
  .ops q13_1 .ret
@[simp] def xk13_1 := @xOps _ _ _ k13_1.eq_1
def k13_2 : ACode :=
  .ops q13_2 .ret
def k13_3 : ACode :=
  .ops [⟨.dead, none, none⟩] .skip
def k13_4 : ACode :=
  .cond (.p 38) k13_2 k13_3
def k13_5 : ACode :=
  .ops q13_3 k13_4
def k13_6 : ACode :=
  .cond (.p 30) k13_1 k13_5
@[simp] def xk13_6 := @xCond _ _ _ _ k13_6.eq_1
def k13_7 : ACode :=
  .ops q13_4 k13_6
@[simp] def xk13_7 := @xOps _ _ _ k13_7.eq_1
def k13_8 : ACode :=
  .cond (.p 22) k13_0 k13_7
@[simp] def xk13_8 := @xCond _ _ _ _ k13_8.eq_1
def k13_9 : ACode :=
  .ops q13_5 k13_8
@[simp] def xk13_9 := @xOps _ _ _ k13_9.eq_1
def k13_10 : ACode :=
  .block 0 k13_9
@[simp] def xk13_10 := @xBlock _ _ _ k13_10.eq_1
def k13_11 : ACode :=
  .seq k13_10 .ret
@[simp] def xk13_11 := @xSeq _ _ _ k13_11.eq_1
def k13_12 : ACode :=
  .ops q13_6 k13_11
@[simp] def xk13_12 := @xOps _ _ _ k13_12.eq_1
def k13_13 : ACode :=
  .ops q13_7 .ret
def k13_14 : ACode :=
  .cond (.p 13) k13_13 .skip
@[simp] def xk13_14 := @xCond _ _ _ _ k13_14.eq_1
def k13_15 : ACode :=
  .seq k13_14 k13_12
@[simp] def xk13_15 := @xSeq _ _ _ k13_15.eq_1
def k13_16 : ACode :=
  .ops q13_8 k13_15
@[simp] def xk13_16 := @xOps _ _ _ k13_16.eq_1
def k13_17 : ACode :=
  .ops [⟨.dead, none, none⟩] .skip
def k13_18 : ACode :=
  .cond (.p 7) k13_17 .skip
@[simp] def xk13_18 := @xCond _ _ _ _ k13_18.eq_1
def k13_19 : ACode :=
  .seq k13_18 k13_16
@[simp] def xk13_19 := @xSeq _ _ _ k13_19.eq_1
def k13_20 : ACode :=
  .ops q13_9 k13_19
@[simp] def xk13_20 := @xOps _ _ _ k13_20.eq_1
def k13_21 : ACode :=
  .ops [⟨.newbox 4 [.int .u8 0, .slice .nil 0 1 [], .slice .nil 0 1 [], .slice .nil 0 1 [], .int .u8 0], (some 4), none⟩] k13_20
@[simp] def xk13_21 := @xOps _ _ _ k13_21.eq_1
def k13_22 : ACode :=
  .ops q13_10 k13_21
@[simp] def xk13_22 := @xOps _ _ _ k13_22.eq_1
def af13 : AFunc := ⟨46, k13_22, [.cell 2 true 5, .tmp 3], fun _ _ => none⟩

theorem ok13 : ∃ hs, pFunc Tryd.prog sg hs Tryd.f13 = some af13 := ⟨fun i => 0, by kernel_rfl⟩
def q5_0 : List AOper :=
  [⟨.load .take true 5 (.p 8), (some 77), none⟩,
 ⟨.store 5 (.p 4) (.p 77), none, none⟩,
 ⟨.assign (.c (.bool true)), (some 5), none⟩]
@[simp] def eq5_0 := id q5_0.eq_1
def q5_1 : List AOper :=
  [⟨.move .look (.t 15), (some 71), none⟩,
 ⟨.call 12 [(.t 71, false)], (some 72), none⟩,
 ⟨.move .look (.p 16), (some 73), none⟩,
 ⟨.convInt .i64 (.p 73), (some 74), none⟩,
 ⟨.fieldAddr 3 (.p 8), (some 75), none⟩,
 ⟨.store 1 (.p 75) (.t 72), none, none⟩,
 ⟨.fieldAddr 4 (.p 8), (some 76), none⟩,
 ⟨.store 1 (.p 76) (.p 74), none, none⟩]
@[simp] def eq5_1 := id q5_1.eq_1
def q5_2 : List AOper :=
  [⟨.load .look true 5 (.p 6), (some 65), none⟩,
 ⟨.call 18 [(.p 65, false)], (some 66), none⟩,
 ⟨.move .look (.t 66), (some 64), none⟩,
 ⟨.extract 64 0, (some 67), none⟩,
 ⟨.extract 64 1, (some 68), none⟩,
 ⟨.extract 64 2, (some 69), none⟩,
 ⟨.assign (.t 67), (some 15), none⟩,
 ⟨.assign (.p 68), (some 16), none⟩,
 ⟨.assign (.p 69), (some 17), none⟩]
@[simp] def eq5_2 := id q5_2.eq_1
def q5_3 : List AOper :=
  [⟨.bin .add 1 true (.p 52) (.c (.int .i64 1)), (some 63), none⟩,
 ⟨.move .look (.p 63), (some 52), none⟩]
@[simp] def eq5_3 := id q5_3.eq_1
def q5_4 : List AOper :=
  [⟨.fieldAddr 2 (.p 8), (some 56), none⟩,
 ⟨.load .take false 1 (.p 56), (some 57), none⟩,
 ⟨.move .look (.p 14), (some 58), none⟩,
 ⟨.px (.fb 2) [.p 58], (some 59), none⟩,
 ⟨.buildSl 23 1 [.int .u32 0] [(0, 1, .p 59)], (some 60), none⟩,
 ⟨.append 23 1 4 false (.t 57) (.p 60), (some 61), none⟩,
 ⟨.fieldAddr 2 (.p 8), (some 62), none⟩,
 ⟨.store 1 (.p 62) (.t 61), none, none⟩]
@[simp] def eq5_4 := id q5_4.eq_1
def q5_5 : List AOper :=
  [⟨.indexAddr 1 (.t 50) (.p 52), (some 54), none⟩,
 ⟨.load .take false 1 (.p 54), (some 55), none⟩,
 ⟨.assign (.p 55), (some 14), none⟩]
@[simp] def eq5_5 := id q5_5.eq_1
def q5_6 : List AOper :=
  [⟨.move .look (.t 11), (some 50), none⟩,
 ⟨.len false (.p 50), (some 51), none⟩,
 ⟨.move .head (.c (.int .i64 0)), (some 52), none⟩]
@[simp] def eq5_6 := id q5_6.eq_1
def q5_7 : List AOper :=
  [⟨.load .look true 5 (.p 6), (some 45), none⟩,
 ⟨.call 16 [(.p 45, false)], (some 46), none⟩,
 ⟨.move .look (.t 46), (some 44), none⟩,
 ⟨.extract 44 0, (some 47), none⟩,
 ⟨.extract 44 1, (some 48), none⟩,
 ⟨.assign (.t 47), (some 11), none⟩,
 ⟨.assign (.p 48), (some 12), none⟩]
@[simp] def eq5_7 := id q5_7.eq_1
def q5_8 : List AOper :=
  [⟨.fieldAddr 1 (.p 8), (some 39), none⟩,
 ⟨.load .take false 1 (.p 39), (some 40), none⟩,
 ⟨.move .look (.t 9), (some 41), none⟩,
 ⟨.append 59 1 1 false (.t 40) (.p 41), (some 42), none⟩,
 ⟨.fieldAddr 1 (.p 8), (some 43), none⟩,
 ⟨.store 1 (.p 43) (.t 42), none, none⟩]
@[simp] def eq5_8 := id q5_8.eq_1
def q5_9 : List AOper :=
  [⟨.load .look true 5 (.p 6), (some 34), none⟩,
 ⟨.call 15 [(.p 34, false)], (some 35), none⟩,
 ⟨.move .look (.t 35), (some 33), none⟩,
 ⟨.extract 33 0, (some 36), none⟩,
 ⟨.extract 33 1, (some 37), none⟩,
 ⟨.assign (.t 36), (some 9), none⟩,
 ⟨.assign (.p 37), (some 10), none⟩]
@[simp] def eq5_9 := id q5_9.eq_1
def q5_10 : List AOper :=
  [⟨.load .look true 5 (.p 6), (some 29), none⟩,
 ⟨.call 14 [(.p 29, false)], (some 30), none⟩,
 ⟨.convInt .i64 (.p 30), (some 31), none⟩,
 ⟨.build [.int .i64 0, .slice .nil 0 1 [], .slice .nil 0 1 [], .slice .nil 0 1 [], .int .i64 0] [(0, 1, .p 31)], (some 32), none⟩,
 ⟨.newbox 8 [.int .i64 0, .slice .nil 0 1 [], .slice .nil 0 1 [], .slice .nil 0 1 [], .int .i64 0], (some 8), none⟩,
 ⟨.store 5 (.p 8) (.p 32), none, none⟩]
@[simp] def eq5_10 := id q5_10.eq_1
def q5_11 : List AOper :=
  [⟨.build [.int .i64 0, .slice .nil 0 1 [], .slice .nil 0 1 [], .slice .nil 0 1 [], .int .i64 0] [], (some 28), none⟩,
 ⟨.store 5 (.p 4) (.p 28), none, none⟩,
 ⟨.assign (.c (.bool false)), (some 5), none⟩]
@[simp] def eq5_11 := id q5_11.eq_1
def q5_12 : List AOper :=
  [⟨.move .head (.p 7), (some 26), none⟩,
 ⟨.bin .neq 5 true (.p 26) (.c (.nilI)), (some 27), none⟩]
@[simp] def eq5_12 := id q5_12.eq_1
def q5_13 : List AOper :=
  [⟨.move .look (.p 0), (some 19), none⟩,
 ⟨.convInt .u8 (.p 19), (some 20), none⟩,
 ⟨.move .look (.t 1), (some 21), none⟩,
 ⟨.build [.int .u8 0, .slice .nil 0 1 []] [(0, 1, .p 20), (1, 1, .t 21)], (some 22), none⟩,
 ⟨.hcall 13 [(.p 22, false)], (some 23), none⟩,
 ⟨.move .look (.t 23), (some 18), none⟩,
 ⟨.extract 18 0, (some 24), none⟩,
 ⟨.extract 18 1, (some 25), none⟩,
 ⟨.newbox 6 [.int .u8 0, .slice .nil 0 1 [], .slice .nil 0 1 [], .slice .nil 0 1 [], .int .u8 0], (some 6), none⟩,
 ⟨.store 5 (.p 6) (.p 24), none, none⟩,
 ⟨.assign (.p 25), (some 7), none⟩]
@[simp] def eq5_13 := id q5_13.eq_1
def q5_14 : List AOper :=
  [⟨.newbox 4 [.int .i64 0, .slice .nil 0 1 [], .slice .nil 0 1 [], .slice .nil 0 1 [], .int .i64 0], (some 4), none⟩,
 ⟨.assign (.c (.bool false)), (some 5), none⟩]
@[simp] def eq5_14 := id q5_14.eq_1
def k5_0 : ACode :=
  .ops q5_0 .ret
@[simp] def xk5_0 := @xOps _ _ _ k5_0.eq_1
def k5_1 : ACode :=
  .ops q5_1 .skip
def k5_2 : ACode :=
  .cond (.p 70) k5_1 .skip
@[simp] def xk5_2 := @xCond _ _ _ _ k5_2.eq_1
def k5_3 : ACode :=
  .seq k5_2 k5_0
@[simp] def xk5_3 := @xSeq _ _ _ k5_3.eq_1
def k5_4 : ACode :=
  .ops [⟨.move .head (.p 17), (some 70), none⟩] k5_3
@[simp] def xk5_4 := @xOps _ _ _ k5_4.eq_1
def k5_5 : ACode :=
  .ops q5_2 k5_4
@[simp] def xk5_5 := @xOps _ _ _ k5_5.eq_1
def k5_6 : ACode :=
  .ops q5_3 .skip
@[simp] def xk5_6 := @xOps _ _ _ k5_6.eq_1
def k5_7 : ACode :=
  .ops q5_4 .skip
@[simp] def xk5_7 := @xOps _ _ _ k5_7.eq_1
def k5_8 : ACode :=
  .ops q5_5 k5_7
@[simp] def xk5_8 := @xOps _ _ _ k5_8.eq_1
def k5_9 : ACode :=
  .block 1 k5_8
@[simp] def xk5_9 := @xBlock _ _ _ k5_9.eq_1
def k5_10 : ACode :=
  .seq k5_9 k5_6
@[simp] def xk5_10 := @xSeq _ _ _ k5_10.eq_1
def k5_11 : ACode :=
  .cond (.p 53) .skip (.exit 0)
@[simp] def xk5_11 := @xCond _ _ _ _ k5_11.eq_1
def k5_12 : ACode :=
  .seq k5_11 k5_10
@[simp] def xk5_12 := @xSeq _ _ _ k5_12.eq_1
def k5_13 : ACode :=
  .ops [⟨.bin .lss 1 false (.p 52) (.p 51), (some 53), none⟩] k5_12
@[simp] def xk5_13 := @xOps _ _ _ k5_13.eq_1
def lc5_0 : ACode :=
  k5_13
@[simp] def xlc5_0 := @xSame _ _ lc5_0.eq_1
def k5_15 : ACode :=
  .loop lc5_0
@[simp] def xk5_15 := @xLoop _ _ k5_15.eq_1
def k5_16 : ACode :=
  .block 0 k5_15
@[simp] def xk5_16 := @xBlock _ _ _ k5_16.eq_1
def k5_17 : ACode :=
  .ops q5_6 k5_16
@[simp] def xk5_17 := @xOps _ _ _ k5_17.eq_1
def k5_18 : ACode :=
  .cond (.p 49) k5_17 .skip
@[simp] def xk5_18 := @xCond _ _ _ _ k5_18.eq_1
def k5_19 : ACode :=
  .seq k5_18 k5_5
@[simp] def xk5_19 := @xSeq _ _ _ k5_19.eq_1
def k5_20 : ACode :=
  .ops [⟨.move .head (.p 12), (some 49), none⟩] k5_19
@[simp] def xk5_20 := @xOps _ _ _ k5_20.eq_1
def k5_21 : ACode :=
  .ops q5_7 k5_20
@[simp] def xk5_21 := @xOps _ _ _ k5_21.eq_1
def k5_22 : ACode :=
  .ops q5_8 .skip
def k5_23 : ACode :=
  .cond (.p 38) k5_22 .skip
@[simp] def xk5_23 := @xCond _ _ _ _ k5_23.eq_1
def k5_24 : ACode :=
  .seq k5_23 k5_21
@[simp] def xk5_24 := @xSeq _ _ _ k5_24.eq_1
def k5_25 : ACode :=
  .ops [⟨.move .head (.p 10), (some 38), none⟩] k5_24
@[simp] def xk5_25 := @xOps _ _ _ k5_25.eq_1
def k5_26 : ACode :=
  .ops q5_9 k5_25
@[simp] def xk5_26 := @xOps _ _ _ k5_26.eq_1
def k5_27 : ACode :=
  .ops q5_10 k5_26
@[simp] def xk5_27 := @xOps _ _ _ k5_27.eq_1
def k5_28 : ACode :=
  .ops q5_11 .ret
def k5_29 : ACode :=
  .cond (.p 27) k5_28 .skip
@[simp] def xk5_29 := @xCond _ _ _ _ k5_29.eq_1
def k5_30 : ACode :=
  .seq k5_29 k5_27
@[simp] def xk5_30 := @xSeq _ _ _ k5_30.eq_1
def k5_31 : ACode :=
  .ops q5_12 k5_30
@[simp] def xk5_31 := @xOps _ _ _ k5_31.eq_1
def k5_32 : ACode :=
  .ops q5_13 k5_31
@[simp] def xk5_32 := @xOps _ _ _ k5_32.eq_1
def k5_33 : ACode :=
  .ops q5_14 k5_32
@[simp] def xk5_33 := @xOps _ _ _ k5_33.eq_1
def af5 : AFunc := ⟨78, k5_33, [.cell 4 true 5, .tmp 5], fun _ _ => none⟩

theorem ok5 : ∃ hs, pFunc Tryd.prog sg hs Tryd.f5 = some af5 := ⟨fun i => if i == 50 then 5 else 0, by kernel_rfl⟩
def q7_0 : List AOper :=
  [⟨.move .take (.t 3), (some 62), none⟩,
 ⟨.assign (.t 62), (some 2), none⟩]
@[simp] def eq7_0 := id q7_0.eq_1
def q7_1 : List AOper :=
  [⟨.bin .add 1 true (.p 22) (.c (.int .i64 1)), (some 31), none⟩,
 ⟨.move .look (.p 31), (some 22), none⟩]
@[simp] def eq7_1 := id q7_1.eq_1
def q7_2 : List AOper :=
  [⟨.move .take (.t 3), (some 26), none⟩,
 ⟨.move .look (.p 5), (some 27), none⟩,
 ⟨.convInt .u8 (.p 27), (some 28), none⟩,
 ⟨.buildSl 5 1 [.int .u8 0] [(0, 1, .p 28)], (some 29), none⟩,
 ⟨.append 5 1 1 false (.t 26) (.p 29), (some 30), none⟩,
 ⟨.assign (.t 30), (some 3), none⟩]
@[simp] def eq7_2 := id q7_2.eq_1
def q7_3 : List AOper :=
  [⟨.indexAddr 1 (.t 20) (.p 22), (some 24), none⟩,
 ⟨.load .take false 1 (.p 24), (some 25), none⟩,
 ⟨.assign (.p 25), (some 5), none⟩]
@[simp] def eq7_3 := id q7_3.eq_1
def q7_4 : List AOper :=
  [⟨.fieldAddr 1 (.p 1), (some 19), none⟩,
 ⟨.load .head false 1 (.p 19), (some 20), none⟩,
 ⟨.len false (.p 20), (some 21), none⟩,
 ⟨.move .head (.c (.int .i64 0)), (some 22), none⟩]
@[simp] def eq7_4 := id q7_4.eq_1
def q7_5 : List AOper :=
  [⟨.bin .add 1 true (.p 37) (.c (.int .i64 1)), (some 55), none⟩,
 ⟨.move .look (.p 55), (some 37), none⟩]
@[simp] def eq7_5 := id q7_5.eq_1
def q7_6 : List AOper :=
  [⟨.move .take (.t 3), (some 41), none⟩,
 ⟨.move .look (.p 7), (some 42), none⟩,
 ⟨.convInt .u8 (.p 42), (some 43), none⟩,
 ⟨.move .look (.p 7), (some 44), none⟩,
 ⟨.bin .shr 1 true (.p 44) (.c (.int .u64 8)), (some 45), none⟩,
 ⟨.convInt .u8 (.p 45), (some 46), none⟩,
 ⟨.move .look (.p 7), (some 47), none⟩,
 ⟨.bin .shr 1 true (.p 47) (.c (.int .u64 16)), (some 48), none⟩,
 ⟨.convInt .u8 (.p 48), (some 49), none⟩,
 ⟨.move .look (.p 7), (some 50), none⟩,
 ⟨.bin .shr 1 true (.p 50) (.c (.int .u64 24)), (some 51), none⟩,
 ⟨.convInt .u8 (.p 51), (some 52), none⟩,
 ⟨.buildSl 5 1 [.int .u8 0, .int .u8 0, .int .u8 0, .int .u8 0] [(0, 1, .p 43), (1, 1, .p 46), (2, 1, .p 49), (3, 1, .p 52)], (some 53), none⟩,
 ⟨.append 5 1 1 false (.t 41) (.p 53), (some 54), none⟩,
 ⟨.assign (.t 54), (some 3), none⟩]
@[simp] def eq7_6 := id q7_6.eq_1
def q7_7 : List AOper :=
  [⟨.indexAddr 1 (.t 35) (.p 37), (some 39), none⟩,
 ⟨.load .take false 1 (.p 39), (some 40), none⟩,
 ⟨.assign (.p 40), (some 7), none⟩]
@[simp] def eq7_7 := id q7_7.eq_1
def q7_8 : List AOper :=
  [⟨.fieldAddr 2 (.p 1), (some 34), none⟩,
 ⟨.load .head false 1 (.p 34), (some 35), none⟩,
 ⟨.len false (.p 35), (some 36), none⟩,
 ⟨.move .head (.c (.int .i64 0)), (some 37), none⟩]
@[simp] def eq7_8 := id q7_8.eq_1
def q7_9 : List AOper :=
  [⟨.move .take (.t 3), (some 58), none⟩,
 ⟨.fieldAddr 3 (.p 1), (some 59), none⟩,
 ⟨.load .look false 1 (.p 59), (some 60), none⟩,
 ⟨.append 5 1 1 false (.t 58) (.p 60), (some 61), none⟩,
 ⟨.assign (.t 61), (some 3), none⟩]
@[simp] def eq7_9 := id q7_9.eq_1
def q7_10 : List AOper :=
  [⟨.bin .eql 1 true (.p 16) (.c (.int .i64 16)), (some 57), none⟩,
 ⟨.assign (.p 57), (some 56), none⟩]
@[simp] def eq7_10 := id q7_10.eq_1
def q7_11 : List AOper :=
  [⟨.bin .eql 1 true (.p 16) (.c (.int .i64 39)), (some 33), none⟩,
 ⟨.assign (.p 33), (some 32), none⟩]
@[simp] def eq7_11 := id q7_11.eq_1
def q7_12 : List AOper :=
  [⟨.bin .eql 1 true (.p 16) (.c (.int .i64 3)), (some 18), none⟩,
 ⟨.assign (.p 18), (some 17), none⟩]
@[simp] def eq7_12 := id q7_12.eq_1
def q7_13 : List AOper :=
  [⟨.fieldAddr 0 (.p 1), (some 15), none⟩,
 ⟨.load .head false 1 (.p 15), (some 16), none⟩]
@[simp] def eq7_13 := id q7_13.eq_1
def q7_14 : List AOper :=
  [⟨.fieldAddr 0 (.p 1), (some 8), none⟩,
 ⟨.load .look false 1 (.p 8), (some 9), none⟩,
 ⟨.convInt .u8 (.p 9), (some 10), none⟩,
 ⟨.fieldAddr 4 (.p 1), (some 11), none⟩,
 ⟨.load .look false 1 (.p 11), (some 12), none⟩,
 ⟨.convInt .u8 (.p 12), (some 13), none⟩,
 ⟨.buildSl 5 1 [.int .u8 0, .int .u8 0] [(0, 1, .p 10), (1, 1, .p 13)], (some 14), none⟩,
 ⟨.assign (.t 14), (some 3), none⟩]
@[simp] def eq7_14 := id q7_14.eq_1
def q7_15 : List AOper :=
  [⟨.box 1 (.p 0), (some 1), none⟩,
 ⟨.assign (.c (.slice .nil 0 1 [])), (some 2), none⟩]
@[simp] def eq7_15 := id q7_15.eq_1
def k7_0 : ACode :=
  .ops q7_0 .ret
@[simp] def xk7_0 := @xOps _ _ _ k7_0.eq_1
def k7_1 : ACode :=
  .ops q7_1 .skip
def k7_2 : ACode :=
  .ops q7_2 .skip
def k7_3 : ACode :=
  .ops q7_3 k7_2
def k7_4 : ACode :=
  .block 2 k7_3
def k7_5 : ACode :=
  .seq k7_4 k7_1
def k7_6 : ACode :=
  .cond (.p 23) .skip (.exit 1)
def k7_7 : ACode :=
  .seq k7_6 k7_5
def k7_8 : ACode :=
  .ops [⟨.bin .lss 1 false (.p 22) (.p 21), (some 23), none⟩] k7_7
def lc7_0 : ACode :=
  k7_8
@[simp] def xlc7_0 := @xSame _ _ lc7_0.eq_1
def k7_10 : ACode :=
  .loop lc7_0
def k7_11 : ACode :=
  .block 1 k7_10
def k7_12 : ACode :=
  .ops q7_4 k7_11
def k7_13 : ACode :=
  .ops q7_5 .skip
@[simp] def xk7_13 := @xOps _ _ _ k7_13.eq_1
def k7_14 : ACode :=
  .ops q7_6 .skip
@[simp] def xk7_14 := @xOps _ _ _ k7_14.eq_1
def k7_15 : ACode :=
  .ops q7_7 k7_14
@[simp] def xk7_15 := @xOps _ _ _ k7_15.eq_1
def k7_16 : ACode :=
  .block 4 k7_15
@[simp] def xk7_16 := @xBlock _ _ _ k7_16.eq_1
def k7_17 : ACode :=
  .seq k7_16 k7_13
@[simp] def xk7_17 := @xSeq _ _ _ k7_17.eq_1
def k7_18 : ACode :=
  .cond (.p 38) .skip (.exit 3)
@[simp] def xk7_18 := @xCond _ _ _ _ k7_18.eq_1
def k7_19 : ACode :=
  .seq k7_18 k7_17
@[simp] def xk7_19 := @xSeq _ _ _ k7_19.eq_1
def k7_20 : ACode :=
  .ops [⟨.bin .lss 1 false (.p 37) (.p 36), (some 38), none⟩] k7_19
@[simp] def xk7_20 := @xOps _ _ _ k7_20.eq_1
def lc7_1 : ACode :=
  k7_20
@[simp] def xlc7_1 := @xSame _ _ lc7_1.eq_1
def k7_22 : ACode :=
  .loop lc7_1
@[simp] def xk7_22 := @xLoop _ _ k7_22.eq_1
def k7_23 : ACode :=
  .block 3 k7_22
@[simp] def xk7_23 := @xBlock _ _ _ k7_23.eq_1
def k7_24 : ACode :=
  .ops q7_8 k7_23
@[simp] def xk7_24 := @xOps _ _ _ k7_24.eq_1
def k7_25 : ACode :=
  .ops q7_9 .skip
def k7_26 : ACode :=
  .cond (.p 56) k7_25 .skip
def k7_27 : ACode :=
  .ops q7_10 k7_26
def k7_28 : ACode :=
  .cond (.p 32) k7_24 k7_27
@[simp] def xk7_28 := @xCond _ _ _ _ k7_28.eq_1
def k7_29 : ACode :=
  .ops q7_11 k7_28
@[simp] def xk7_29 := @xOps _ _ _ k7_29.eq_1
def k7_30 : ACode :=
  .cond (.p 17) k7_12 k7_29
@[simp] def xk7_30 := @xCond _ _ _ _ k7_30.eq_1
def k7_31 : ACode :=
  .ops q7_12 k7_30
@[simp] def xk7_31 := @xOps _ _ _ k7_31.eq_1
def k7_32 : ACode :=
  .block 0 k7_31
@[simp] def xk7_32 := @xBlock _ _ _ k7_32.eq_1
def k7_33 : ACode :=
  .seq k7_32 k7_0
@[simp] def xk7_33 := @xSeq _ _ _ k7_33.eq_1
def k7_34 : ACode :=
  .ops q7_13 k7_33
@[simp] def xk7_34 := @xOps _ _ _ k7_34.eq_1
def k7_35 : ACode :=
  .ops q7_14 k7_34
@[simp] def xk7_35 := @xOps _ _ _ k7_35.eq_1
def k7_36 : ACode :=
  .ops q7_15 k7_35
@[simp] def xk7_36 := @xOps _ _ _ k7_36.eq_1
def af7 : AFunc := ⟨63, k7_36, [.tmp 2], fun _ _ => none⟩

theorem ok7 : ∃ hs, pFunc Tryd.prog sg hs Tryd.f7 = some af7 := ⟨fun i => 0, by kernel_rfl⟩
def q6_0 : List AOper :=
  [⟨.move .look (.t 0), (some 5), none⟩,
 ⟨.convBS (.t 5), (some 6), none⟩,
 ⟨.move .look (.t 1), (some 7), none⟩,
 ⟨.convBS (.t 7), (some 8), none⟩,
 ⟨.bin .eql 2 false (.p 6) (.p 8), (some 9), none⟩,
 ⟨.assign (.p 9), (some 4), none⟩]
@[simp] def eq6_0 := id q6_0.eq_1
def k6_0 : ACode :=
  .ops q6_0 .ret
@[simp] def xk6_0 := @xOps _ _ _ k6_0.eq_1
def k6_1 : ACode :=
  .ops [⟨.assign (.c (.bool false)), (some 4), none⟩] k6_0
@[simp] def xk6_1 := @xOps _ _ _ k6_1.eq_1
def af6 : AFunc := ⟨10, k6_1, [.tmp 4], fun _ _ => none⟩

theorem ok6 : ∃ hs, pFunc Tryd.prog sg hs Tryd.f6 = some af6 := ⟨fun i => 0, by kernel_rfl⟩
def q8_0 : List AOper :=
  [⟨.fieldAddr 0 (.p 2), (some 5), none⟩,
 ⟨.load .head false 1 (.p 5), (some 6), none⟩,
 ⟨.fieldAddr 0 (.p 3), (some 7), none⟩,
 ⟨.load .head false 1 (.p 7), (some 8), none⟩,
 ⟨.bin .eql 1 false (.p 6) (.p 8), (some 9), none⟩,
 ⟨.move .look (.p 9), (some 10), none⟩,
 ⟨.fieldAddr 4 (.p 2), (some 11), (some (10, true))⟩,
 ⟨.load .head false 1 (.p 11), (some 12), (some (10, true))⟩,
 ⟨.fieldAddr 4 (.p 3), (some 13), (some (10, true))⟩,
 ⟨.load .head false 1 (.p 13), (some 14), (some (10, true))⟩,
 ⟨.bin .eql 1 false (.p 12) (.p 14), (some 15), (some (10, true))⟩,
 ⟨.pick (.p 10) (.p 15) (.c (.bool false)), (some 16), none⟩,
 ⟨.move .look (.p 16), (some 17), none⟩,
 ⟨.load .look true 5 (.p 2), (some 18), (some (17, true))⟩,
 ⟨.load .look true 5 (.p 3), (some 20), (some (17, true))⟩,
 ⟨.call 7 [(.p 18, false)], (some 19), (some (17, true))⟩,
 ⟨.call 7 [(.p 20, false)], (some 21), (some (17, true))⟩,
 ⟨.call 6 [(.t 19, false), (.t 21, false)], (some 22), (some (17, true))⟩,
 ⟨.pick (.p 17) (.p 22) (.c (.bool false)), (some 23), none⟩,
 ⟨.assign (.p 23), (some 4), none⟩]
@[simp] def eq8_0 := id q8_0.eq_1
def q8_1 : List AOper :=
  [⟨.box 2 (.p 0), (some 2), none⟩,
 ⟨.box 3 (.p 1), (some 3), none⟩,
 ⟨.assign (.c (.bool false)), (some 4), none⟩]
@[simp] def eq8_1 := id q8_1.eq_1
def k8_0 : ACode :=
  .ops q8_0 .ret
@[simp] def xk8_0 := @xOps _ _ _ k8_0.eq_1
def k8_1 : ACode :=
  .ops q8_1 k8_0
@[simp] def xk8_1 := @xOps _ _ _ k8_1.eq_1
def af8 : AFunc := ⟨24, k8_1, [.tmp 4], fun _ _ => none⟩

theorem ok8 : ∃ hs, pFunc Tryd.prog sg hs Tryd.f8 = some af8 := ⟨fun i => 0, by kernel_rfl⟩
def q3_0 : List AOper :=
  [⟨.move .head (.p 6), (some 45), none⟩,
 ⟨.bin .eql 1 true (.p 45) (.c (.int .i64 9)), (some 46), none⟩,
 ⟨.move .look (.p 46), (some 47), none⟩,
 ⟨.move .look (.t 7), (some 48), (some (47, true))⟩,
 ⟨.load .look true 5 (.p 5), (some 49), (some (47, true))⟩,
 ⟨.call 7 [(.p 49, false)], (some 50), (some (47, true))⟩,
 ⟨.call 6 [(.t 48, false), (.t 50, false)], (some 51), (some (47, true))⟩,
 ⟨.pick (.p 47) (.p 51) (.c (.bool false)), (some 52), none⟩,
 ⟨.move .look (.p 52), (some 53), none⟩,
 ⟨.move .look (.p 9), (some 54), (some (53, true))⟩,
 ⟨.pick (.p 53) (.p 54) (.c (.bool false)), (some 55), none⟩,
 ⟨.move .look (.p 55), (some 56), none⟩,
 ⟨.load .look true 5 (.p 5), (some 57), (some (56, true))⟩,
 ⟨.load .look true 5 (.p 8), (some 58), (some (56, true))⟩,
 ⟨.call 8 [(.p 57, false), (.p 58, false)], (some 59), (some (56, true))⟩,
 ⟨.pick (.p 56) (.p 59) (.c (.bool false)), (some 60), none⟩,
 ⟨.move .look (.p 60), (some 61), none⟩,
 ⟨.fieldAddr 2 (.p 8), (some 62), (some (61, true))⟩,
 ⟨.load .head false 1 (.p 62), (some 63), (some (61, true))⟩,
 ⟨.len false (.p 63), (some 64), (some (61, true))⟩,
 ⟨.move .head (.t 0), (some 65), (some (61, true))⟩,
 ⟨.len false (.p 65), (some 66), (some (61, true))⟩,
 ⟨.bin .eql 1 false (.p 64) (.p 66), (some 67), (some (61, true))⟩,
 ⟨.pick (.p 61) (.p 67) (.c (.bool false)), (some 68), none⟩,
 ⟨.assign (.p 68), (some 2), none⟩]
@[simp] def eq3_0 := id q3_0.eq_1
def q3_1 : List AOper :=
  [⟨.move .look (.p 6), (some 40), none⟩,
 ⟨.move .look (.t 7), (some 41), none⟩,
 ⟨.call 5 [(.p 40, false), (.t 41, false)], (some 42), none⟩,
 ⟨.move .look (.t 42), (some 39), none⟩,
 ⟨.extract 39 0, (some 43), none⟩,
 ⟨.extract 39 1, (some 44), none⟩,
 ⟨.newbox 8 [.int .i64 0, .slice .nil 0 1 [], .slice .nil 0 1 [], .slice .nil 0 1 [], .int .i64 0], (some 8), none⟩,
 ⟨.store 5 (.p 8) (.p 43), none, none⟩,
 ⟨.assign (.p 44), (some 9), none⟩]
@[simp] def eq3_1 := id q3_1.eq_1
def q3_2 : List AOper :=
  [⟨.move .look (.t 0), (some 35), none⟩,
 ⟨.call 4 [(.t 35, false)], (some 36), none⟩,
 ⟨.move .look (.t 36), (some 34), none⟩,
 ⟨.extract 34 0, (some 37), none⟩,
 ⟨.extract 34 1, (some 38), none⟩,
 ⟨.assign (.p 37), (some 6), none⟩,
 ⟨.assign (.t 38), (some 7), none⟩]
@[simp] def eq3_2 := id q3_2.eq_1
def q3_3 : List AOper :=
  [⟨.move .look (.t 0), (some 32), none⟩,
 ⟨.build [.int .i64 0, .slice .nil 0 1 [], .slice .nil 0 1 [], .slice .nil 0 1 [], .int .i64 0] [(0, 1, .c (.int .i64 39)), (2, 1, .t 32)], (some 33), none⟩,
 ⟨.newbox 5 [.int .i64 0, .slice .nil 0 1 [], .slice .nil 0 1 [], .slice .nil 0 1 [], .int .i64 0], (some 5), none⟩,
 ⟨.store 5 (.p 5) (.p 33), none, none⟩]
@[simp] def eq3_3 := id q3_3.eq_1
def q3_4 : List AOper :=
  [⟨.bin .add 1 true (.p 18) (.c (.int .i64 1)), (some 31), none⟩,
 ⟨.move .look (.p 31), (some 18), none⟩]
@[simp] def eq3_4 := id q3_4.eq_1
def q3_5 : List AOper :=
  [⟨.move .look (.p 4), (some 22), none⟩,
 ⟨.bin .shr 1 true (.p 22) (.c (.int .u64 23)), (some 23), none⟩,
 ⟨.bin .and 1 true (.p 23) (.c (.int .u32 255)), (some 24), none⟩,
 ⟨.bin .eql 1 true (.p 24) (.c (.int .u32 255)), (some 25), none⟩,
 ⟨.move .look (.p 25), (some 26), none⟩,
 ⟨.move .look (.p 4), (some 27), (some (26, true))⟩,
 ⟨.bin .and 1 true (.p 27) (.c (.int .u32 8388607)), (some 28), (some (26, true))⟩,
 ⟨.bin .neq 1 true (.p 28) (.c (.int .u32 0)), (some 29), (some (26, true))⟩,
 ⟨.pick (.p 26) (.p 29) (.c (.bool false)), (some 30), none⟩]
@[simp] def eq3_5 := id q3_5.eq_1
def q3_6 : List AOper :=
  [⟨.indexAddr 1 (.t 16) (.p 18), (some 20), none⟩,
 ⟨.load .take false 1 (.p 20), (some 21), none⟩,
 ⟨.assign (.p 21), (some 4), none⟩]
@[simp] def eq3_6 := id q3_6.eq_1
def q3_7 : List AOper :=
  [⟨.move .look (.t 0), (some 16), none⟩,
 ⟨.len false (.p 16), (some 17), none⟩,
 ⟨.move .head (.c (.int .i64 0)), (some 18), none⟩]
@[simp] def eq3_7 := id q3_7.eq_1
def q3_8 : List AOper :=
  [⟨.move .head (.t 0), (some 13), none⟩,
 ⟨.len false (.p 13), (some 14), none⟩,
 ⟨.bin .gtr 1 true (.p 14) (.c (.int .i64 500)), (some 15), none⟩]
@[simp] def eq3_8 := id q3_8.eq_1
def q3_9 : List AOper :=
  [⟨.move .head (.t 0), (some 10), none⟩,
 ⟨.len false (.p 10), (some 11), none⟩,
 ⟨.bin .gtr 1 true (.p 11) (.c (.int .i64 2147483647)), (some 12), none⟩]
@[simp] def eq3_9 := id q3_9.eq_1
def k3_0 : ACode :=
  .ops q3_0 .ret
@[simp] def xk3_0 := @xOps _ _ _ k3_0.eq_1
def k3_1 : ACode :=
  .ops q3_1 k3_0
@[simp] def xk3_1 := @xOps _ _ _ k3_1.eq_1
def k3_2 : ACode :=
  .ops q3_2 k3_1
@[simp] def xk3_2 := @xOps _ _ _ k3_2.eq_1
def k3_3 : ACode :=
  .ops q3_3 k3_2
@[simp] def xk3_3 := @xOps _ _ _ k3_3.eq_1
def k3_4 : ACode :=
  .ops q3_4 .skip
@[simp] def xk3_4 := @xOps _ _ _ k3_4.eq_1
def k3_5 : ACode :=
  .ops [⟨.assign (.c (.bool true)), (some 2), none⟩] .ret
@[simp] def xk3_5 := @xOps _ _ _ k3_5.eq_1
def k3_6 : ACode :=
  .cond (.p 30) k3_5 .skip
@[simp] def xk3_6 := @xCond _ _ _ _ k3_6.eq_1
def k3_7 : ACode :=
  .ops q3_5 k3_6
@[simp] def xk3_7 := @xOps _ _ _ k3_7.eq_1
def k3_8 : ACode :=
  .ops q3_6 k3_7
@[simp] def xk3_8 := @xOps _ _ _ k3_8.eq_1
def k3_9 : ACode :=
  .block 1 k3_8
@[simp] def xk3_9 := @xBlock _ _ _ k3_9.eq_1
def k3_10 : ACode :=
  .seq k3_9 k3_4
@[simp] def xk3_10 := @xSeq _ _ _ k3_10.eq_1
def k3_11 : ACode :=
  .cond (.p 19) .skip (.exit 0)
@[simp] def xk3_11 := @xCond _ _ _ _ k3_11.eq_1
def k3_12 : ACode :=
  .seq k3_11 k3_10
@[simp] def xk3_12 := @xSeq _ _ _ k3_12.eq_1
def k3_13 : ACode :=
  .ops [⟨.bin .lss 1 false (.p 18) (.p 17), (some 19), none⟩] k3_12
@[simp] def xk3_13 := @xOps _ _ _ k3_13.eq_1
def lc3_0 : ACode :=
  k3_13
@[simp] def xlc3_0 := @xSame _ _ lc3_0.eq_1
def k3_15 : ACode :=
  .loop lc3_0
@[simp] def xk3_15 := @xLoop _ _ k3_15.eq_1
def k3_16 : ACode :=
  .block 0 k3_15
@[simp] def xk3_16 := @xBlock _ _ _ k3_16.eq_1
def k3_17 : ACode :=
  .seq k3_16 k3_3
@[simp] def xk3_17 := @xSeq _ _ _ k3_17.eq_1
def k3_18 : ACode :=
  .ops q3_7 k3_17
@[simp] def xk3_18 := @xOps _ _ _ k3_18.eq_1
def k3_19 : ACode :=
  .ops [⟨.assign (.c (.bool true)), (some 2), none⟩] .ret
@[simp] def xk3_19 := @xOps _ _ _ k3_19.eq_1
def k3_20 : ACode :=
  .cond (.p 15) k3_19 .skip
@[simp] def xk3_20 := @xCond _ _ _ _ k3_20.eq_1
def k3_21 : ACode :=
  .seq k3_20 k3_18
@[simp] def xk3_21 := @xSeq _ _ _ k3_21.eq_1
def k3_22 : ACode :=
  .ops q3_8 k3_21
@[simp] def xk3_22 := @xOps _ _ _ k3_22.eq_1
def k3_23 : ACode :=
  .ops [⟨.assign (.c (.bool true)), (some 2), none⟩] .ret
@[simp] def xk3_23 := @xOps _ _ _ k3_23.eq_1
def k3_24 : ACode :=
  .cond (.p 12) k3_23 .skip
@[simp] def xk3_24 := @xCond _ _ _ _ k3_24.eq_1
def k3_25 : ACode :=
  .seq k3_24 k3_22
@[simp] def xk3_25 := @xSeq _ _ _ k3_25.eq_1
def k3_26 : ACode :=
  .ops q3_9 k3_25
@[simp] def xk3_26 := @xOps _ _ _ k3_26.eq_1
def k3_27 : ACode :=
  .ops [⟨.assign (.c (.bool false)), (some 2), none⟩] k3_26
@[simp] def xk3_27 := @xOps _ _ _ k3_27.eq_1
def af3 : AFunc := ⟨69, k3_27, [.tmp 2], fun _ _ => none⟩

theorem ok3 : ∃ hs, pFunc Tryd.prog sg hs Tryd.f3 = some af3 := ⟨fun i => if i == 16 then 5 else 0, by kernel_rfl⟩
end
def fnsL : List (FuncId × AFunc) := [(10, af10), (14, af14), (15, af15), (20, af20), (19, af19), (16, af16), (22, af22), (29, af29), (21, af21), (18, af18), (24, af24), (23, af23), (11, af11), (12, af12), (4, af4), (25, af25), (30, af30), (26, af26), (31, af31), (27, af27), (32, af32), (28, af28), (13, af13), (5, af5), (7, af7), (6, af6), (8, af8), (3, af3)]
def fns : FuncId → Option AFunc := fun f => fnsL.lookup f
theorem run10 {vs : List AV} {h0 : H} (hl : vs.length ≤ 35) {r : AV × H} (h : GoC fns (fun e => xends [.cell 2 true 5] e = some r) [] k10_19 ⟨fun j => (vs[j]?).getD .undef, fun _ => none, h0⟩) : callω fns 10 vs h0 = some r :=
  callω_run fns (af := af10) rfl rfl rfl rfl hl h
theorem run14 {vs : List AV} {h0 : H} (hl : vs.length ≤ 5) {r : AV × H} (h : GoC fns (fun e => xends [.tmp 2] e = some r) [] k14_1 ⟨fun j => (vs[j]?).getD .undef, fun _ => none, h0⟩) : callω fns 14 vs h0 = some r :=
  callω_run fns (af := af14) rfl rfl rfl rfl hl h
theorem run15 {vs : List AV} {h0 : H} (hl : vs.length ≤ 9) {r : AV × H} (h : GoC fns (fun e => xends [.tmp 2, .tmp 3] e = some r) [] k15_5 ⟨fun j => (vs[j]?).getD .undef, fun _ => none, h0⟩) : callω fns 15 vs h0 = some r :=
  callω_run fns (af := af15) rfl rfl rfl rfl hl h
theorem run16 {vs : List AV} {h0 : H} (hl : vs.length ≤ 9) {r : AV × H} (h : GoC fns (fun e => xends [.tmp 2, .tmp 3] e = some r) [] k16_5 ⟨fun j => (vs[j]?).getD .undef, fun _ => none, h0⟩) : callω fns 16 vs h0 = some r :=
  callω_run fns (af := af16) rfl rfl rfl rfl hl h
theorem run22 {vs : List AV} {h0 : H} (hl : vs.length ≤ 17) {r : AV × H} (h : GoC fns (fun e => xends [.tmp 2] e = some r) [] k22_6 ⟨fun j => (vs[j]?).getD .undef, fun _ => none, h0⟩) : callω fns 22 vs h0 = some r :=
  callω_run fns (af := af22) rfl rfl rfl rfl hl h
theorem run29 {vs : List AV} {h0 : H} (hl : vs.length ≤ 28) {r : AV × H} (h : GoC fns (fun e => xends [] e = some r) [] k29_5 ⟨fun j => (vs[j]?).getD .undef, fun _ => none, h0⟩) : callω fns 29 vs h0 = some r :=
  callω_run fns (af := af29) rfl rfl rfl rfl hl h
theorem runs21 {vs : List AV} {h0 : H} (hl : vs.length ≤ 33) {p : AV × H → Prop} (h : GoC fns (fun e => Run (xends [.cell 2 true 2] e) p) [] k21_19 ⟨fun j => (vs[j]?).getD .undef, fun _ => none, h0⟩) : CW fns 21 vs h0 p :=
  callω_runs fns (af := af21) rfl rfl rfl rfl hl h
theorem run18 {vs : List AV} {h0 : H} (hl : vs.length ≤ 12) {r : AV × H} (h : GoC fns (fun e => xends [.tmp 2, .tmp 3, .tmp 4] e = some r) [] k18_5 ⟨fun j => (vs[j]?).getD .undef, fun _ => none, h0⟩) : callω fns 18 vs h0 = some r :=
  callω_run fns (af := af18) rfl rfl rfl rfl hl h
theorem runs11 {vs : List AV} {h0 : H} (hl : vs.length ≤ 23) {p : AV × H → Prop} (h : GoC fns (fun e => Run (xends [.cell 2 true 2] e) p) [] k11_13 ⟨fun j => (vs[j]?).getD .undef, fun _ => none, h0⟩) : CW fns 11 vs h0 p :=
  callω_runs fns (af := af11) rfl rfl rfl rfl hl h
theorem run12 {vs : List AV} {h0 : H} (hl : vs.length ≤ 5) {r : AV × H} (h : GoC fns (fun e => xends [.tmp 2] e = some r) [] k12_1 ⟨fun j => (vs[j]?).getD .undef, fun _ => none, h0⟩) : callω fns 12 vs h0 = some r :=
  callω_run fns (af := af12) rfl rfl rfl rfl hl h
theorem runs4 {vs : List AV} {h0 : H} (hl : vs.length ≤ 29) {p : AV × H → Prop} (h : GoC fns (fun e => Run (xends [.tmp 2, .tmp 3] e) p) [] k4_16 ⟨fun j => (vs[j]?).getD .undef, fun _ => none, h0⟩) : CW fns 4 vs h0 p :=
  callω_runs fns (af := af4) rfl rfl rfl rfl hl h
theorem run31 {vs : List AV} {h0 : H} (hl : vs.length ≤ 30) {r : AV × H} (h : GoC fns (fun e => xends [.tmp 4] e = some r) [] k31_2 ⟨fun j => (vs[j]?).getD .undef, fun _ => none, h0⟩) : callω fns 31 vs h0 = some r :=
  callω_run fns (af := af31) rfl rfl rfl rfl hl h
theorem runs27 {vs : List AV} {h0 : H} (hl : vs.length ≤ 54) {p : AV × H → Prop} (h : GoC fns (fun e => Run (xends [.cell 2 true 5, .tmp 3] e) p) [] k27_29 ⟨fun j => (vs[j]?).getD .undef, fun _ => none, h0⟩) : CW fns 27 vs h0 p :=
  callω_runs fns (af := af27) rfl rfl rfl rfl hl h
theorem runs13 {vs : List AV} {h0 : H} (hl : vs.length ≤ 46) {p : AV × H → Prop} (h : GoC fns (fun e => Run (xends [.cell 2 true 5, .tmp 3] e) p) [] k13_22 ⟨fun j => (vs[j]?).getD .undef, fun _ => none, h0⟩) : CW fns 13 vs h0 p :=
  callω_runs fns (af := af13) rfl rfl rfl rfl hl h
theorem runs5 {vs : List AV} {h0 : H} (hl : vs.length ≤ 78) {p : AV × H → Prop} (h : GoC fns (fun e => Run (xends [.cell 4 true 5, .tmp 5] e) p) [] k5_33 ⟨fun j => (vs[j]?).getD .undef, fun _ => none, h0⟩) : CW fns 5 vs h0 p :=
  callω_runs fns (af := af5) rfl rfl rfl rfl hl h
theorem run7 {vs : List AV} {h0 : H} (hl : vs.length ≤ 63) {r : AV × H} (h : GoC fns (fun e => xends [.tmp 2] e = some r) [] k7_36 ⟨fun j => (vs[j]?).getD .undef, fun _ => none, h0⟩) : callω fns 7 vs h0 = some r :=
  callω_run fns (af := af7) rfl rfl rfl rfl hl h
theorem run6 {vs : List AV} {h0 : H} (hl : vs.length ≤ 10) {r : AV × H} (h : GoC fns (fun e => xends [.tmp 4] e = some r) [] k6_1 ⟨fun j => (vs[j]?).getD .undef, fun _ => none, h0⟩) : callω fns 6 vs h0 = some r :=
  callω_run fns (af := af6) rfl rfl rfl rfl hl h
theorem run8 {vs : List AV} {h0 : H} (hl : vs.length ≤ 24) {r : AV × H} (h : GoC fns (fun e => xends [.tmp 4] e = some r) [] k8_1 ⟨fun j => (vs[j]?).getD .undef, fun _ => none, h0⟩) : callω fns 8 vs h0 = some r :=
  callω_run fns (af := af8) rfl rfl rfl rfl hl h
theorem runs3 {vs : List AV} {h0 : H} (hl : vs.length ≤ 69) {p : AV × H → Prop} (h : GoC fns (fun e => Run (xends [.tmp 2] e) p) [] k3_27 ⟨fun j => (vs[j]?).getD .undef, fun _ => none, h0⟩) : CW fns 3 vs h0 p :=
  callω_runs fns (af := af3) rfl rfl rfl rfl hl h

def OkF (f : FuncId) (af : AFunc) : Prop := ∃ fn, Tryd.prog.funcs[f]? = some fn ∧ (fn.name == "runtime.NumGoroutine") = false ∧ (∃ hs, pFunc Tryd.prog sg hs fn = some ⟨af.n, af.code, af.res, fun _ _ => none⟩) ∧ XOk Tryd.prog f af.x
def OkL : List (FuncId × AFunc) → Prop
  | [] => True
  | (f, af) :: r => OkF f af ∧ OkL r
theorem okL_lookup : ∀ {l : List (FuncId × AFunc)} {f : FuncId} {af : AFunc}, OkL l → l.lookup f = some af → OkF f af
  | [], _, _, _, h => by cases h
  | (g, ag) :: r, f, af, hl, h => by
    rw [List.lookup_cons] at h
    split at h
    · rename_i hb; injection h with h; subst h; have := beq_iff_eq.1 hb; subst this; exact hl.1
    · exact okL_lookup hl.2 h
theorem fnsOk : FnsOk Tryd.prog sg fns := fun f af h => okL_lookup (l := fnsL) ⟨⟨Tryd.f10, Tryd.func10, by kernel_rfl, ok10, xok_none _ _⟩, ⟨Tryd.f14, Tryd.func14, by kernel_rfl, ok14, xok_none _ _⟩, ⟨Tryd.f15, Tryd.func15, by kernel_rfl, ok15, xok_none _ _⟩, ⟨Tryd.f20, Tryd.func20, by kernel_rfl, ok20, xok_none _ _⟩, ⟨Tryd.f19, Tryd.func19, by kernel_rfl, ok19, xok_none _ _⟩, ⟨Tryd.f16, Tryd.func16, by kernel_rfl, ok16, xok_none _ _⟩, ⟨Tryd.f22, Tryd.func22, by kernel_rfl, ok22, xok_none _ _⟩, ⟨Tryd.f29, Tryd.func29, by kernel_rfl, ok29, xok_none _ _⟩, ⟨Tryd.f21, Tryd.func21, by kernel_rfl, ok21, xok_none _ _⟩, ⟨Tryd.f18, Tryd.func18, by kernel_rfl, ok18, xok_none _ _⟩, ⟨Tryd.f24, Tryd.func24, by kernel_rfl, ok24, xok_none _ _⟩, ⟨Tryd.f23, Tryd.func23, by kernel_rfl, ok23, xok_none _ _⟩, ⟨Tryd.f11, Tryd.func11, by kernel_rfl, ok11, xok_none _ _⟩, ⟨Tryd.f12, Tryd.func12, by kernel_rfl, ok12, xok_none _ _⟩, ⟨Tryd.f4, Tryd.func4, by kernel_rfl, ok4, xok_none _ _⟩, ⟨Tryd.f25, Tryd.func25, by kernel_rfl, ok25, xok_none _ _⟩, ⟨Tryd.f30, Tryd.func30, by kernel_rfl, ok30, xok_none _ _⟩, ⟨Tryd.f26, Tryd.func26, by kernel_rfl, ok26, xok_none _ _⟩, ⟨Tryd.f31, Tryd.func31, by kernel_rfl, ok31, xok_none _ _⟩, ⟨Tryd.f27, Tryd.func27, by kernel_rfl, ok27, xok_none _ _⟩, ⟨Tryd.f32, Tryd.func32, by kernel_rfl, ok32, xok_none _ _⟩, ⟨Tryd.f28, Tryd.func28, by kernel_rfl, ok28, xok_none _ _⟩, ⟨Tryd.f13, Tryd.func13, by kernel_rfl, ok13, xok_none _ _⟩, ⟨Tryd.f5, Tryd.func5, by kernel_rfl, ok5, xok_none _ _⟩, ⟨Tryd.f7, Tryd.func7, by kernel_rfl, ok7, xok_none _ _⟩, ⟨Tryd.f6, Tryd.func6, by kernel_rfl, ok6, xok_none _ _⟩, ⟨Tryd.f8, Tryd.func8, by kernel_rfl, ok8, xok_none _ _⟩, ⟨Tryd.f3, Tryd.func3, by kernel_rfl, ok3, xok_none _ _⟩, trivial⟩ h
end Go.Proofs.YtjlioidknhdceaaDoor.Abs
