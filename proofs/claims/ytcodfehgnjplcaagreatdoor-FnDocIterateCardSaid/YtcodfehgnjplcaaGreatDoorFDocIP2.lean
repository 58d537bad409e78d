/- The functions that the law reaches, made ready for the interpreter (printed by a program of this session; the kernel compares each with the given program). -/
import Derived.Test.YtcodfehgnjplcaaGreatDoorFDocIP1
namespace Go.Proofs.YtcodfehgnjplcaaGreatDoor.Abs
set_option linter.all false
set_option maxRecDepth 100000
section
variable {fns : FuncId → Option AFunc} {Q : Ex × St → Prop} {s : List Fr} {c : ACode} {st : St}
def q142_0 : List AOper :=
  [⟨.bin .add 1 true (.p 9) (.c (.int .i64 1)), (some 205), none⟩,
    ⟨.move .look (.p 205), (some 9), none⟩]
@[simp] def eq142_0 := id q142_0.eq_1
def q142_1 : List AOper :=
  [⟨.move .look (.p 0), (some 19), none⟩,
    ⟨.fieldAddr 0 (.p 5), (some 20), none⟩,
    ⟨.load .look false 1 (.p 20), (some 21), none⟩,
    ⟨.fieldAddr 4 (.p 6), (some 22), none⟩,
    ⟨.load .look false 1 (.p 22), (some 23), none⟩,
    ⟨.px (.fb 1) [.p 23], (some 24), none⟩,
    ⟨.call 181 [(.p 19, false), (.p 21, false), (.p 24, false)], (some 25), none⟩]
@[simp] def eq142_1 := id q142_1.eq_1
def q142_2 : List AOper :=
  [⟨.move .look (.p 0), (some 28), none⟩,
    ⟨.fieldAddr 0 (.p 5), (some 29), none⟩,
    ⟨.load .look false 1 (.p 29), (some 30), none⟩,
    ⟨.fieldAddr 1 (.p 6), (some 31), none⟩,
    ⟨.load .look false 1 (.p 31), (some 32), none⟩,
    ⟨.call 183 [(.p 28, false), (.p 30, false), (.p 32, false)], (some 33), none⟩]
@[simp] def eq142_2 := id q142_2.eq_1
def q142_3 : List AOper :=
  [⟨.move .look (.p 0), (some 44), none⟩,
    ⟨.call 185 [(.p 44, false)], (some 45), none⟩]
@[simp] def eq142_3 := id q142_3.eq_1
def q142_4 : List AOper :=
  [⟨.move .look (.p 0), (some 40), none⟩,
    ⟨.fieldAddr 7 (.p 6), (some 41), none⟩,
    ⟨.load .look false 1 (.p 41), (some 42), none⟩,
    ⟨.hcall 142 [(.p 40, false), (.t 42, false)], (some 43), none⟩]
@[simp] def eq142_4 := id q142_4.eq_1
def q142_5 : List AOper :=
  [⟨.move .look (.p 0), (some 36), none⟩,
    ⟨.fieldAddr 0 (.p 5), (some 37), none⟩,
    ⟨.load .look false 1 (.p 37), (some 38), none⟩,
    ⟨.call 184 [(.p 36, false), (.p 38, false)], (some 39), none⟩]
@[simp] def eq142_5 := id q142_5.eq_1
def q142_6 : List AOper :=
  [⟨.move .look (.p 0), (some 48), none⟩,
    ⟨.fieldAddr 0 (.p 5), (some 49), none⟩,
    ⟨.load .look false 1 (.p 49), (some 50), none⟩,
    ⟨.fieldAddr 7 (.p 6), (some 51), none⟩,
    ⟨.load .look false 1 (.p 51), (some 52), none⟩,
    ⟨.call 188 [(.t 52, false)], (some 53), none⟩,
    ⟨.call 187 [(.t 53, false)], (some 54), none⟩,
    ⟨.call 186 [(.p 48, false), (.p 50, false), (.t 54, false)], (some 55), none⟩]
@[simp] def eq142_6 := id q142_6.eq_1
def q142_7 : List AOper :=
  [⟨.move .look (.p 0), (some 58), none⟩,
    ⟨.fieldAddr 0 (.p 5), (some 59), none⟩,
    ⟨.load .look false 1 (.p 59), (some 60), none⟩,
    ⟨.fieldAddr 3 (.p 6), (some 61), none⟩,
    ⟨.load .look false 1 (.p 61), (some 62), none⟩,
    ⟨.convInt .u8 (.p 62), (some 63), none⟩,
    ⟨.fieldAddr 6 (.p 6), (some 64), none⟩,
    ⟨.load .look false 1 (.p 64), (some 65), none⟩,
    ⟨.call 189 [(.p 58, false), (.p 60, false), (.p 63, false), (.t 65, false)], (some 66), none⟩]
@[simp] def eq142_7 := id q142_7.eq_1
def q142_8 : List AOper :=
  [⟨.move .look (.p 0), (some 69), none⟩,
    ⟨.fieldAddr 0 (.p 5), (some 70), none⟩,
    ⟨.load .look false 1 (.p 70), (some 71), none⟩,
    ⟨.call 190 [(.p 69, false), (.p 71, false)], (some 72), none⟩]
@[simp] def eq142_8 := id q142_8.eq_1
def q142_9 : List AOper :=
  [⟨.move .look (.p 0), (some 75), none⟩,
    ⟨.fieldAddr 0 (.p 5), (some 76), none⟩,
    ⟨.load .look false 1 (.p 76), (some 77), none⟩,
    ⟨.fieldAddr 6 (.p 6), (some 78), none⟩,
    ⟨.load .look false 1 (.p 78), (some 79), none⟩,
    ⟨.call 192 [(.t 79, false)], (some 80), none⟩,
    ⟨.call 191 [(.p 75, false), (.p 77, false), (.p 80, false)], (some 81), none⟩]
@[simp] def eq142_9 := id q142_9.eq_1
def q142_10 : List AOper :=
  [⟨.move .look (.p 0), (some 84), none⟩,
    ⟨.fieldAddr 0 (.p 5), (some 85), none⟩,
    ⟨.load .look false 1 (.p 85), (some 86), none⟩,
    ⟨.fieldAddr 3 (.p 6), (some 87), none⟩,
    ⟨.load .head false 1 (.p 87), (some 88), none⟩,
    ⟨.bin .neq 1 true (.p 88) (.c (.int .i64 0)), (some 89), none⟩,
    ⟨.call 193 [(.p 84, false), (.p 86, false), (.p 89, false)], (some 90), none⟩]
@[simp] def eq142_10 := id q142_10.eq_1
def q142_11 : List AOper :=
  [⟨.move .look (.p 0), (some 93), none⟩,
    ⟨.fieldAddr 0 (.p 5), (some 94), none⟩,
    ⟨.load .look false 1 (.p 94), (some 95), none⟩,
    ⟨.fieldAddr 3 (.p 6), (some 96), none⟩,
    ⟨.load .look false 1 (.p 96), (some 97), none⟩,
    ⟨.call 194 [(.p 93, false), (.p 95, false), (.p 97, false)], (some 98), none⟩]
@[simp] def eq142_11 := id q142_11.eq_1
def q142_12 : List AOper :=
  [⟨.move .look (.p 0), (some 101), none⟩,
    ⟨.fieldAddr 0 (.p 5), (some 102), none⟩,
    ⟨.load .look false 1 (.p 102), (some 103), none⟩,
    ⟨.call 195 [(.p 101, false), (.p 103, false)], (some 104), none⟩]
@[simp] def eq142_12 := id q142_12.eq_1
def q142_13 : List AOper :=
  [⟨.move .look (.p 0), (some 107), none⟩,
    ⟨.fieldAddr 0 (.p 5), (some 108), none⟩,
    ⟨.load .look false 1 (.p 108), (some 109), none⟩,
    ⟨.fieldAddr 1 (.p 6), (some 110), none⟩,
    ⟨.load .look false 1 (.p 110), (some 111), none⟩,
    ⟨.fieldAddr 2 (.p 6), (some 112), none⟩,
    ⟨.load .look false 1 (.p 112), (some 113), none⟩,
    ⟨.call 196 [(.p 107, false), (.p 109, false), (.p 111, false), (.p 113, false)], (some 114), none⟩]
@[simp] def eq142_13 := id q142_13.eq_1
def q142_14 : List AOper :=
  [⟨.move .look (.p 0), (some 117), none⟩,
    ⟨.fieldAddr 0 (.p 5), (some 118), none⟩,
    ⟨.load .look false 1 (.p 118), (some 119), none⟩,
    ⟨.fieldAddr 1 (.p 6), (some 120), none⟩,
    ⟨.load .look false 1 (.p 120), (some 121), none⟩,
    ⟨.fieldAddr 6 (.p 6), (some 122), none⟩,
    ⟨.load .look false 1 (.p 122), (some 123), none⟩,
    ⟨.call 192 [(.t 123, false)], (some 124), none⟩,
    ⟨.call 197 [(.p 117, false), (.p 119, false), (.p 121, false), (.p 124, false)], (some 125), none⟩]
@[simp] def eq142_14 := id q142_14.eq_1
def q142_15 : List AOper :=
  [⟨.move .look (.p 0), (some 128), none⟩,
    ⟨.fieldAddr 0 (.p 5), (some 129), none⟩,
    ⟨.load .look false 1 (.p 129), (some 130), none⟩,
    ⟨.fieldAddr 1 (.p 6), (some 131), none⟩,
    ⟨.load .look false 1 (.p 131), (some 132), none⟩,
    ⟨.call 198 [(.p 128, false), (.p 130, false), (.p 132, false)], (some 133), none⟩]
@[simp] def eq142_15 := id q142_15.eq_1
def q142_16 : List AOper :=
  [⟨.move .look (.p 0), (some 136), none⟩,
    ⟨.fieldAddr 0 (.p 5), (some 137), none⟩,
    ⟨.load .look false 1 (.p 137), (some 138), none⟩,
    ⟨.fieldAddr 1 (.p 6), (some 139), none⟩,
    ⟨.load .look false 1 (.p 139), (some 140), none⟩,
    ⟨.call 199 [(.p 136, false), (.p 138, false), (.p 140, false)], (some 141), none⟩]
@[simp] def eq142_16 := id q142_16.eq_1
def q142_17 : List AOper :=
  [⟨.move .look (.p 0), (some 144), none⟩,
    ⟨.fieldAddr 0 (.p 5), (some 145), none⟩,
    ⟨.load .look false 1 (.p 145), (some 146), none⟩,
    ⟨.fieldAddr 1 (.p 6), (some 147), none⟩,
    ⟨.load .look false 1 (.p 147), (some 148), none⟩,
    ⟨.fieldAddr 7 (.p 6), (some 149), none⟩,
    ⟨.load .look false 1 (.p 149), (some 150), none⟩,
    ⟨.call 56 [(.t 150, false)], (some 151), none⟩,
    ⟨.call 200 [(.p 144, false), (.p 146, false), (.p 148, false), (.t 151, false)], (some 152), none⟩]
@[simp] def eq142_17 := id q142_17.eq_1
def q142_18 : List AOper :=
  [⟨.move .look (.p 0), (some 155), none⟩,
    ⟨.fieldAddr 0 (.p 5), (some 156), none⟩,
    ⟨.load .look false 1 (.p 156), (some 157), none⟩,
    ⟨.fieldAddr 3 (.p 6), (some 158), none⟩,
    ⟨.load .look false 1 (.p 158), (some 159), none⟩,
    ⟨.convInt .i32 (.p 159), (some 160), none⟩,
    ⟨.hcall 201 [(.p 155, false), (.p 157, false), (.p 160, false)], (some 161), none⟩]
@[simp] def eq142_18 := id q142_18.eq_1
def q142_19 : List AOper :=
  [⟨.move .look (.p 0), (some 164), none⟩,
    ⟨.fieldAddr 0 (.p 5), (some 165), none⟩,
    ⟨.load .look false 1 (.p 165), (some 166), none⟩,
    ⟨.fieldAddr 4 (.p 6), (some 167), none⟩,
    ⟨.load .look false 1 (.p 167), (some 168), none⟩,
    ⟨.bin .shr 1 true (.p 168) (.c (.int .u64 32)), (some 169), none⟩,
    ⟨.convInt .u32 (.p 169), (some 170), none⟩,
    ⟨.fieldAddr 4 (.p 6), (some 171), none⟩,
    ⟨.load .look false 1 (.p 171), (some 172), none⟩,
    ⟨.convInt .u32 (.p 172), (some 173), none⟩,
    ⟨.call 202 [(.p 164, false), (.p 166, false), (.p 170, false), (.p 173, false)], (some 174), none⟩]
@[simp] def eq142_19 := id q142_19.eq_1
def q142_20 : List AOper :=
  [⟨.move .look (.p 0), (some 177), none⟩,
    ⟨.fieldAddr 0 (.p 5), (some 178), none⟩,
    ⟨.load .look false 1 (.p 178), (some 179), none⟩,
    ⟨.fieldAddr 3 (.p 6), (some 180), none⟩,
    ⟨.load .look false 1 (.p 180), (some 181), none⟩,
    ⟨.call 203 [(.p 177, false), (.p 179, false), (.p 181, false)], (some 182), none⟩]
@[simp] def eq142_20 := id q142_20.eq_1
def q142_21 : List AOper :=
  [⟨.move .look (.p 0), (some 185), none⟩,
    ⟨.fieldAddr 0 (.p 5), (some 186), none⟩,
    ⟨.load .look false 1 (.p 186), (some 187), none⟩,
    ⟨.fieldAddr 5 (.p 6), (some 188), none⟩,
    ⟨.load .look false 1 (.p 188), (some 189), none⟩,
    ⟨.fieldAddr 4 (.p 6), (some 190), none⟩,
    ⟨.load .look false 1 (.p 190), (some 191), none⟩,
    ⟨.call 204 [(.p 185, false), (.p 187, false), (.p 189, false), (.p 191, false)], (some 192), none⟩]
@[simp] def eq142_21 := id q142_21.eq_1
def q142_22 : List AOper :=
  [⟨.move .look (.p 0), (some 195), none⟩,
    ⟨.fieldAddr 0 (.p 5), (some 196), none⟩,
    ⟨.load .look false 1 (.p 196), (some 197), none⟩,
    ⟨.call 205 [(.p 195, false), (.p 197, false)], (some 198), none⟩]
@[simp] def eq142_22 := id q142_22.eq_1
def q142_23 : List AOper :=
  [⟨.move .look (.p 0), (some 201), none⟩,
    ⟨.fieldAddr 0 (.p 5), (some 202), none⟩,
    ⟨.load .look false 1 (.p 202), (some 203), none⟩,
    ⟨.call 206 [(.p 201, false), (.p 203, false)], (some 204), none⟩]
@[simp] def eq142_23 := id q142_23.eq_1
def q142_24 : List AOper :=
  [⟨.bin .eql 1 true (.p 16) (.c (.int .i64 255)), (some 200), none⟩,
    ⟨.assign (.p 200), (some 199), none⟩]
@[simp] def eq142_24 := id q142_24.eq_1
def q142_25 : List AOper :=
  [⟨.bin .eql 1 true (.p 16) (.c (.int .i64 127)), (some 194), none⟩,
    ⟨.assign (.p 194), (some 193), none⟩]
@[simp] def eq142_25 := id q142_25.eq_1
def q142_26 : List AOper :=
  [⟨.bin .eql 1 true (.p 16) (.c (.int .i64 19)), (some 184), none⟩,
    ⟨.assign (.p 184), (some 183), none⟩]
@[simp] def eq142_26 := id q142_26.eq_1
def q142_27 : List AOper :=
  [⟨.bin .eql 1 true (.p 16) (.c (.int .i64 18)), (some 176), none⟩,
    ⟨.assign (.p 176), (some 175), none⟩]
@[simp] def eq142_27 := id q142_27.eq_1
def q142_28 : List AOper :=
  [⟨.bin .eql 1 true (.p 16) (.c (.int .i64 17)), (some 163), none⟩,
    ⟨.assign (.p 163), (some 162), none⟩]
@[simp] def eq142_28 := id q142_28.eq_1
def q142_29 : List AOper :=
  [⟨.bin .eql 1 true (.p 16) (.c (.int .i64 16)), (some 154), none⟩,
    ⟨.assign (.p 154), (some 153), none⟩]
@[simp] def eq142_29 := id q142_29.eq_1
def q142_30 : List AOper :=
  [⟨.bin .eql 1 true (.p 16) (.c (.int .i64 15)), (some 143), none⟩,
    ⟨.assign (.p 143), (some 142), none⟩]
@[simp] def eq142_30 := id q142_30.eq_1
def q142_31 : List AOper :=
  [⟨.bin .eql 1 true (.p 16) (.c (.int .i64 14)), (some 135), none⟩,
    ⟨.assign (.p 135), (some 134), none⟩]
@[simp] def eq142_31 := id q142_31.eq_1
def q142_32 : List AOper :=
  [⟨.bin .eql 1 true (.p 16) (.c (.int .i64 13)), (some 127), none⟩,
    ⟨.assign (.p 127), (some 126), none⟩]
@[simp] def eq142_32 := id q142_32.eq_1
def q142_33 : List AOper :=
  [⟨.bin .eql 1 true (.p 16) (.c (.int .i64 12)), (some 116), none⟩,
    ⟨.assign (.p 116), (some 115), none⟩]
@[simp] def eq142_33 := id q142_33.eq_1
def q142_34 : List AOper :=
  [⟨.bin .eql 1 true (.p 16) (.c (.int .i64 11)), (some 106), none⟩,
    ⟨.assign (.p 106), (some 105), none⟩]
@[simp] def eq142_34 := id q142_34.eq_1
def q142_35 : List AOper :=
  [⟨.bin .eql 1 true (.p 16) (.c (.int .i64 10)), (some 100), none⟩,
    ⟨.assign (.p 100), (some 99), none⟩]
@[simp] def eq142_35 := id q142_35.eq_1
def q142_36 : List AOper :=
  [⟨.bin .eql 1 true (.p 16) (.c (.int .i64 9)), (some 92), none⟩,
    ⟨.assign (.p 92), (some 91), none⟩]
@[simp] def eq142_36 := id q142_36.eq_1
def q142_37 : List AOper :=
  [⟨.bin .eql 1 true (.p 16) (.c (.int .i64 8)), (some 83), none⟩,
    ⟨.assign (.p 83), (some 82), none⟩]
@[simp] def eq142_37 := id q142_37.eq_1
def q142_38 : List AOper :=
  [⟨.bin .eql 1 true (.p 16) (.c (.int .i64 7)), (some 74), none⟩,
    ⟨.assign (.p 74), (some 73), none⟩]
@[simp] def eq142_38 := id q142_38.eq_1
def q142_39 : List AOper :=
  [⟨.bin .eql 1 true (.p 16) (.c (.int .i64 6)), (some 68), none⟩,
    ⟨.assign (.p 68), (some 67), none⟩]
@[simp] def eq142_39 := id q142_39.eq_1
def q142_40 : List AOper :=
  [⟨.bin .eql 1 true (.p 16) (.c (.int .i64 5)), (some 57), none⟩,
    ⟨.assign (.p 57), (some 56), none⟩]
@[simp] def eq142_40 := id q142_40.eq_1
def q142_41 : List AOper :=
  [⟨.bin .eql 1 true (.p 16) (.c (.int .i64 4)), (some 47), none⟩,
    ⟨.assign (.p 47), (some 46), none⟩]
@[simp] def eq142_41 := id q142_41.eq_1
def q142_42 : List AOper :=
  [⟨.bin .eql 1 true (.p 16) (.c (.int .i64 3)), (some 35), none⟩,
    ⟨.assign (.p 35), (some 34), none⟩]
@[simp] def eq142_42 := id q142_42.eq_1
def q142_43 : List AOper :=
  [⟨.bin .eql 1 true (.p 16) (.c (.int .i64 2)), (some 27), none⟩,
    ⟨.assign (.p 27), (some 26), none⟩]
@[simp] def eq142_43 := id q142_43.eq_1
def q142_44 : List AOper :=
  [⟨.bin .eql 1 true (.p 16) (.c (.int .i64 1)), (some 18), none⟩,
    ⟨.assign (.p 18), (some 17), none⟩]
@[simp] def eq142_44 := id q142_44.eq_1
def q142_45 : List AOper :=
  [⟨.fieldAddr 0 (.p 6), (some 15), none⟩,
    ⟨.load .head false 1 (.p 15), (some 16), none⟩]
@[simp] def eq142_45 := id q142_45.eq_1
def q142_46 : List AOper :=
  [⟨.fieldAddr 1 (.p 5), (some 13), none⟩,
    ⟨.load .take true 8 (.p 13), (some 14), none⟩,
    ⟨.newbox 6 [.int .i64 0, .str [], .str [], .int .i64 0, .int .u64 0, .int .u64 0, .slice .nil 0 1 [], .slice .nil 0 1 []], (some 6), none⟩,
    ⟨.store 8 (.p 6) (.p 14), none, none⟩]
@[simp] def eq142_46 := id q142_46.eq_1
def q142_47 : List AOper :=
  [⟨.indexAddr 9 (.t 7) (.p 9), (some 11), none⟩,
    ⟨.load .take true 9 (.p 11), (some 12), none⟩,
    ⟨.newbox 5 [.str [], .int .i64 0, .str [], .str [], .int .i64 0, .int .u64 0, .int .u64 0, .slice .nil 0 1 [], .slice .nil 0 1 []], (some 5), none⟩,
    ⟨.store 9 (.p 5) (.p 12), none, none⟩]
@[simp] def eq142_47 := id q142_47.eq_1
def q142_48 : List AOper :=
  [⟨.move .look (.t 1), (some 7), none⟩,
    ⟨.len false (.p 7), (some 8), none⟩,
    ⟨.move .head (.c (.int .i64 0)), (some 9), none⟩]
@[simp] def eq142_48 := id q142_48.eq_1
def k142_0 : ACode :=
  .ops q142_0 .skip
@[simp] theorem xk142_0 : GoC fns Q s k142_0 st ↔ GoO fns Q s q142_0 .skip st := goC_ops
def k142_1 : ACode :=
  .ops q142_1 .skip
@[simp] theorem xk142_1 : GoC fns Q s k142_1 st ↔ GoO fns Q s q142_1 .skip st := goC_ops
def k142_2 : ACode :=
  .ops q142_2 .skip
@[simp] theorem xk142_2 : GoC fns Q s k142_2 st ↔ GoO fns Q s q142_2 .skip st := goC_ops
def k142_3 : ACode :=
  .ops q142_3 .skip
@[simp] theorem xk142_3 : GoC fns Q s k142_3 st ↔ GoO fns Q s q142_3 .skip st := goC_ops
def k142_4 : ACode :=
  .ops q142_4 k142_3
@[simp] theorem xk142_4 : GoC fns Q s k142_4 st ↔ GoO fns Q s q142_4 k142_3 st := goC_ops
def k142_5 : ACode :=
  .ops q142_5 k142_4
@[simp] theorem xk142_5 : GoC fns Q s k142_5 st ↔ GoO fns Q s q142_5 k142_4 st := goC_ops
def k142_6 : ACode :=
  .ops q142_6 .skip
@[simp] theorem xk142_6 : GoC fns Q s k142_6 st ↔ GoO fns Q s q142_6 .skip st := goC_ops
def k142_7 : ACode :=
  .ops q142_7 .skip
@[simp] theorem xk142_7 : GoC fns Q s k142_7 st ↔ GoO fns Q s q142_7 .skip st := goC_ops
def k142_8 : ACode :=
  .ops q142_8 .skip
@[simp] theorem xk142_8 : GoC fns Q s k142_8 st ↔ GoO fns Q s q142_8 .skip st := goC_ops
def k142_9 : ACode :=
  .ops q142_9 .skip
@[simp] theorem xk142_9 : GoC fns Q s k142_9 st ↔ GoO fns Q s q142_9 .skip st := goC_ops
def k142_10 : ACode :=
  .ops q142_10 .skip
@[simp] theorem xk142_10 : GoC fns Q s k142_10 st ↔ GoO fns Q s q142_10 .skip st := goC_ops
def k142_11 : ACode :=
  .ops q142_11 .skip
@[simp] theorem xk142_11 : GoC fns Q s k142_11 st ↔ GoO fns Q s q142_11 .skip st := goC_ops
def k142_12 : ACode :=
  .ops q142_12 .skip
@[simp] theorem xk142_12 : GoC fns Q s k142_12 st ↔ GoO fns Q s q142_12 .skip st := goC_ops
def k142_13 : ACode :=
  .ops q142_13 .skip
@[simp] theorem xk142_13 : GoC fns Q s k142_13 st ↔ GoO fns Q s q142_13 .skip st := goC_ops
def k142_14 : ACode :=
  .ops q142_14 .skip
@[simp] theorem xk142_14 : GoC fns Q s k142_14 st ↔ GoO fns Q s q142_14 .skip st := goC_ops
def k142_15 : ACode :=
  .ops q142_15 .skip
@[simp] theorem xk142_15 : GoC fns Q s k142_15 st ↔ GoO fns Q s q142_15 .skip st := goC_ops
def k142_16 : ACode :=
  .ops q142_16 .skip
@[simp] theorem xk142_16 : GoC fns Q s k142_16 st ↔ GoO fns Q s q142_16 .skip st := goC_ops
def k142_17 : ACode :=
  .ops q142_17 .skip
@[simp] theorem xk142_17 : GoC fns Q s k142_17 st ↔ GoO fns Q s q142_17 .skip st := goC_ops
def k142_18 : ACode :=
  .ops q142_18 .skip
@[simp] theorem xk142_18 : GoC fns Q s k142_18 st ↔ GoO fns Q s q142_18 .skip st := goC_ops
def k142_19 : ACode :=
  .ops q142_19 .skip
@[simp] theorem xk142_19 : GoC fns Q s k142_19 st ↔ GoO fns Q s q142_19 .skip st := goC_ops
def k142_20 : ACode :=
  .ops q142_20 .skip
@[simp] theorem xk142_20 : GoC fns Q s k142_20 st ↔ GoO fns Q s q142_20 .skip st := goC_ops
def k142_21 : ACode :=
  .ops q142_21 .skip
@[simp] theorem xk142_21 : GoC fns Q s k142_21 st ↔ GoO fns Q s q142_21 .skip st := goC_ops
def k142_22 : ACode :=
  .ops q142_22 .skip
@[simp] theorem xk142_22 : GoC fns Q s k142_22 st ↔ GoO fns Q s q142_22 .skip st := goC_ops
def k142_23 : ACode :=
  .ops q142_23 .skip
@[simp] theorem xk142_23 : GoC fns Q s k142_23 st ↔ GoO fns Q s q142_23 .skip st := goC_ops
def k142_24 : ACode :=
  .cond (.p 199) k142_23 .skip
@[simp] theorem xk142_24 : GoC fns Q s k142_24 st ↔ GB fns Q s (peek st (.p 199)) k142_23 .skip st := goC_cond
def k142_25 : ACode :=
  .ops q142_24 k142_24
@[simp] theorem xk142_25 : GoC fns Q s k142_25 st ↔ GoO fns Q s q142_24 k142_24 st := goC_ops
def k142_26 : ACode :=
  .cond (.p 193) k142_22 k142_25
@[simp] theorem xk142_26 : GoC fns Q s k142_26 st ↔ GB fns Q s (peek st (.p 193)) k142_22 k142_25 st := goC_cond
def k142_27 : ACode :=
  .ops q142_25 k142_26
@[simp] theorem xk142_27 : GoC fns Q s k142_27 st ↔ GoO fns Q s q142_25 k142_26 st := goC_ops
def k142_28 : ACode :=
  .cond (.p 183) k142_21 k142_27
@[simp] theorem xk142_28 : GoC fns Q s k142_28 st ↔ GB fns Q s (peek st (.p 183)) k142_21 k142_27 st := goC_cond
def k142_29 : ACode :=
  .ops q142_26 k142_28
@[simp] theorem xk142_29 : GoC fns Q s k142_29 st ↔ GoO fns Q s q142_26 k142_28 st := goC_ops
def k142_30 : ACode :=
  .cond (.p 175) k142_20 k142_29
@[simp] theorem xk142_30 : GoC fns Q s k142_30 st ↔ GB fns Q s (peek st (.p 175)) k142_20 k142_29 st := goC_cond
def k142_31 : ACode :=
  .ops q142_27 k142_30
@[simp] theorem xk142_31 : GoC fns Q s k142_31 st ↔ GoO fns Q s q142_27 k142_30 st := goC_ops
def k142_32 : ACode :=
  .cond (.p 162) k142_19 k142_31
@[simp] theorem xk142_32 : GoC fns Q s k142_32 st ↔ GB fns Q s (peek st (.p 162)) k142_19 k142_31 st := goC_cond
def k142_33 : ACode :=
  .ops q142_28 k142_32
@[simp] theorem xk142_33 : GoC fns Q s k142_33 st ↔ GoO fns Q s q142_28 k142_32 st := goC_ops
def k142_34 : ACode :=
  .cond (.p 153) k142_18 k142_33
@[simp] theorem xk142_34 : GoC fns Q s k142_34 st ↔ GB fns Q s (peek st (.p 153)) k142_18 k142_33 st := goC_cond
def k142_35 : ACode :=
  .ops q142_29 k142_34
@[simp] theorem xk142_35 : GoC fns Q s k142_35 st ↔ GoO fns Q s q142_29 k142_34 st := goC_ops
def k142_36 : ACode :=
  .cond (.p 142) k142_17 k142_35
@[simp] theorem xk142_36 : GoC fns Q s k142_36 st ↔ GB fns Q s (peek st (.p 142)) k142_17 k142_35 st := goC_cond
def k142_37 : ACode :=
  .ops q142_30 k142_36
@[simp] theorem xk142_37 : GoC fns Q s k142_37 st ↔ GoO fns Q s q142_30 k142_36 st := goC_ops
def k142_38 : ACode :=
  .cond (.p 134) k142_16 k142_37
@[simp] theorem xk142_38 : GoC fns Q s k142_38 st ↔ GB fns Q s (peek st (.p 134)) k142_16 k142_37 st := goC_cond
def k142_39 : ACode :=
  .ops q142_31 k142_38
@[simp] theorem xk142_39 : GoC fns Q s k142_39 st ↔ GoO fns Q s q142_31 k142_38 st := goC_ops
def k142_40 : ACode :=
  .cond (.p 126) k142_15 k142_39
@[simp] theorem xk142_40 : GoC fns Q s k142_40 st ↔ GB fns Q s (peek st (.p 126)) k142_15 k142_39 st := goC_cond
def k142_41 : ACode :=
  .ops q142_32 k142_40
@[simp] theorem xk142_41 : GoC fns Q s k142_41 st ↔ GoO fns Q s q142_32 k142_40 st := goC_ops
def k142_42 : ACode :=
  .cond (.p 115) k142_14 k142_41
@[simp] theorem xk142_42 : GoC fns Q s k142_42 st ↔ GB fns Q s (peek st (.p 115)) k142_14 k142_41 st := goC_cond
def k142_43 : ACode :=
  .ops q142_33 k142_42
@[simp] theorem xk142_43 : GoC fns Q s k142_43 st ↔ GoO fns Q s q142_33 k142_42 st := goC_ops
def k142_44 : ACode :=
  .cond (.p 105) k142_13 k142_43
@[simp] theorem xk142_44 : GoC fns Q s k142_44 st ↔ GB fns Q s (peek st (.p 105)) k142_13 k142_43 st := goC_cond
def k142_45 : ACode :=
  .ops q142_34 k142_44
@[simp] theorem xk142_45 : GoC fns Q s k142_45 st ↔ GoO fns Q s q142_34 k142_44 st := goC_ops
def k142_46 : ACode :=
  .cond (.p 99) k142_12 k142_45
@[simp] theorem xk142_46 : GoC fns Q s k142_46 st ↔ GB fns Q s (peek st (.p 99)) k142_12 k142_45 st := goC_cond
def k142_47 : ACode :=
  .ops q142_35 k142_46
@[simp] theorem xk142_47 : GoC fns Q s k142_47 st ↔ GoO fns Q s q142_35 k142_46 st := goC_ops
def k142_48 : ACode :=
  .cond (.p 91) k142_11 k142_47
@[simp] theorem xk142_48 : GoC fns Q s k142_48 st ↔ GB fns Q s (peek st (.p 91)) k142_11 k142_47 st := goC_cond
def k142_49 : ACode :=
  .ops q142_36 k142_48
@[simp] theorem xk142_49 : GoC fns Q s k142_49 st ↔ GoO fns Q s q142_36 k142_48 st := goC_ops
def k142_50 : ACode :=
  .cond (.p 82) k142_10 k142_49
@[simp] theorem xk142_50 : GoC fns Q s k142_50 st ↔ GB fns Q s (peek st (.p 82)) k142_10 k142_49 st := goC_cond
def k142_51 : ACode :=
  .ops q142_37 k142_50
@[simp] theorem xk142_51 : GoC fns Q s k142_51 st ↔ GoO fns Q s q142_37 k142_50 st := goC_ops
def k142_52 : ACode :=
  .cond (.p 73) k142_9 k142_51
@[simp] theorem xk142_52 : GoC fns Q s k142_52 st ↔ GB fns Q s (peek st (.p 73)) k142_9 k142_51 st := goC_cond
def k142_53 : ACode :=
  .ops q142_38 k142_52
@[simp] theorem xk142_53 : GoC fns Q s k142_53 st ↔ GoO fns Q s q142_38 k142_52 st := goC_ops
def k142_54 : ACode :=
  .cond (.p 67) k142_8 k142_53
@[simp] theorem xk142_54 : GoC fns Q s k142_54 st ↔ GB fns Q s (peek st (.p 67)) k142_8 k142_53 st := goC_cond
def k142_55 : ACode :=
  .ops q142_39 k142_54
@[simp] theorem xk142_55 : GoC fns Q s k142_55 st ↔ GoO fns Q s q142_39 k142_54 st := goC_ops
def k142_56 : ACode :=
  .cond (.p 56) k142_7 k142_55
@[simp] theorem xk142_56 : GoC fns Q s k142_56 st ↔ GB fns Q s (peek st (.p 56)) k142_7 k142_55 st := goC_cond
def k142_57 : ACode :=
  .ops q142_40 k142_56
@[simp] theorem xk142_57 : GoC fns Q s k142_57 st ↔ GoO fns Q s q142_40 k142_56 st := goC_ops
def k142_58 : ACode :=
  .cond (.p 46) k142_6 k142_57
@[simp] theorem xk142_58 : GoC fns Q s k142_58 st ↔ GB fns Q s (peek st (.p 46)) k142_6 k142_57 st := goC_cond
def k142_59 : ACode :=
  .ops q142_41 k142_58
@[simp] theorem xk142_59 : GoC fns Q s k142_59 st ↔ GoO fns Q s q142_41 k142_58 st := goC_ops
def k142_60 : ACode :=
  .cond (.p 34) k142_5 k142_59
@[simp] theorem xk142_60 : GoC fns Q s k142_60 st ↔ GB fns Q s (peek st (.p 34)) k142_5 k142_59 st := goC_cond
def k142_61 : ACode :=
  .ops q142_42 k142_60
@[simp] theorem xk142_61 : GoC fns Q s k142_61 st ↔ GoO fns Q s q142_42 k142_60 st := goC_ops
def k142_62 : ACode :=
  .cond (.p 26) k142_2 k142_61
@[simp] theorem xk142_62 : GoC fns Q s k142_62 st ↔ GB fns Q s (peek st (.p 26)) k142_2 k142_61 st := goC_cond
def k142_63 : ACode :=
  .ops q142_43 k142_62
@[simp] theorem xk142_63 : GoC fns Q s k142_63 st ↔ GoO fns Q s q142_43 k142_62 st := goC_ops
def k142_64 : ACode :=
  .cond (.p 17) k142_1 k142_63
@[simp] theorem xk142_64 : GoC fns Q s k142_64 st ↔ GB fns Q s (peek st (.p 17)) k142_1 k142_63 st := goC_cond
def k142_65 : ACode :=
  .ops q142_44 k142_64
@[simp] theorem xk142_65 : GoC fns Q s k142_65 st ↔ GoO fns Q s q142_44 k142_64 st := goC_ops
def k142_66 : ACode :=
  .block 2 k142_65
@[simp] theorem xk142_66 : GoC fns Q s k142_66 st ↔ GoC fns Q (.bl 2 :: s) k142_65 st := goC_block
def k142_67 : ACode :=
  .ops q142_45 k142_66
@[simp] theorem xk142_67 : GoC fns Q s k142_67 st ↔ GoO fns Q s q142_45 k142_66 st := goC_ops
def k142_68 : ACode :=
  .ops q142_46 k142_67
@[simp] theorem xk142_68 : GoC fns Q s k142_68 st ↔ GoO fns Q s q142_46 k142_67 st := goC_ops
def k142_69 : ACode :=
  .ops q142_47 k142_68
@[simp] theorem xk142_69 : GoC fns Q s k142_69 st ↔ GoO fns Q s q142_47 k142_68 st := goC_ops
def k142_70 : ACode :=
  .block 1 k142_69
@[simp] theorem xk142_70 : GoC fns Q s k142_70 st ↔ GoC fns Q (.bl 1 :: s) k142_69 st := goC_block
def k142_71 : ACode :=
  .seq k142_70 k142_0
@[simp] theorem xk142_71 : GoC fns Q s k142_71 st ↔ GoC fns Q (.sq k142_0 :: s) k142_70 st := goC_seq
def k142_72 : ACode :=
  .cond (.p 10) .skip (.exit 0)
@[simp] theorem xk142_72 : GoC fns Q s k142_72 st ↔ GB fns Q s (peek st (.p 10)) .skip (.exit 0) st := goC_cond
def k142_73 : ACode :=
  .seq k142_72 k142_71
@[simp] theorem xk142_73 : GoC fns Q s k142_73 st ↔ GoC fns Q (.sq k142_71 :: s) k142_72 st := goC_seq
def k142_74 : ACode :=
  .ops [⟨.bin .lss 1 false (.p 9) (.p 8), (some 10), none⟩] k142_73
@[simp] theorem xk142_74 : GoC fns Q s k142_74 st ↔ GoO fns Q s [⟨.bin .lss 1 false (.p 9) (.p 8), (some 10), none⟩] k142_73 st := goC_ops
def lc142_0 : ACode :=
  k142_74
@[simp] theorem xlc142_0 : GoC fns Q s lc142_0 st ↔ GoC fns Q s k142_74 st := Iff.rfl
def k142_76 : ACode :=
  .loop lc142_0
@[simp] theorem xk142_76 : GoC fns Q s k142_76 st ↔ (LoopR fns lc142_0 st fun r => GoE fns Q s r.1 r.2) := goC_loop
def k142_77 : ACode :=
  .block 0 k142_76
@[simp] theorem xk142_77 : GoC fns Q s k142_77 st ↔ GoC fns Q (.bl 0 :: s) k142_76 st := goC_block
def k142_78 : ACode :=
  .seq k142_77 .ret
@[simp] theorem xk142_78 : GoC fns Q s k142_78 st ↔ GoC fns Q (.sq .ret :: s) k142_77 st := goC_seq
def k142_79 : ACode :=
  .ops q142_48 k142_78
@[simp] theorem xk142_79 : GoC fns Q s k142_79 st ↔ GoO fns Q s q142_48 k142_78 st := goC_ops
def af142 : AFunc := ⟨206, k142_79, [], fun _ _ => none⟩

theorem ok142 : ∃ hs, pFunc Tryz.prog sg hs Tryz.f142 = some af142 := ⟨fun i => if i == 7 then 5 else 0, by kernel_rfl⟩
def q304_0 : List AOper :=
  [⟨.move .look (.m 1), (some 23), none⟩,
    ⟨.move .look (.p 2), (some 24), none⟩,
    ⟨.bin .shr 1 true (.p 24) (.c (.int .u64 24)), (some 25), none⟩,
    ⟨.convInt .u8 (.p 25), (some 26), none⟩,
    ⟨.indexAddr 1 (.m 23) (.c (.int .i64 3)), (some 27), none⟩,
    ⟨.store 1 (.p 27) (.p 26), none, none⟩]
@[simp] def eq304_0 := id q304_0.eq_1
def q304_1 : List AOper :=
  [⟨.move .look (.m 1), (some 18), none⟩,
    ⟨.move .look (.p 2), (some 19), none⟩,
    ⟨.bin .shr 1 true (.p 19) (.c (.int .u64 16)), (some 20), none⟩,
    ⟨.convInt .u8 (.p 20), (some 21), none⟩,
    ⟨.indexAddr 1 (.m 18) (.c (.int .i64 2)), (some 22), none⟩,
    ⟨.store 1 (.p 22) (.p 21), none, none⟩]
@[simp] def eq304_1 := id q304_1.eq_1
def q304_2 : List AOper :=
  [⟨.move .look (.m 1), (some 13), none⟩,
    ⟨.move .look (.p 2), (some 14), none⟩,
    ⟨.bin .shr 1 true (.p 14) (.c (.int .u64 8)), (some 15), none⟩,
    ⟨.convInt .u8 (.p 15), (some 16), none⟩,
    ⟨.indexAddr 1 (.m 13) (.c (.int .i64 1)), (some 17), none⟩,
    ⟨.store 1 (.p 17) (.p 16), none, none⟩]
@[simp] def eq304_2 := id q304_2.eq_1
def q304_3 : List AOper :=
  [⟨.move .look (.m 1), (some 9), none⟩,
    ⟨.move .look (.p 2), (some 10), none⟩,
    ⟨.convInt .u8 (.p 10), (some 11), none⟩,
    ⟨.indexAddr 1 (.m 9) (.c (.int .i64 0)), (some 12), none⟩,
    ⟨.store 1 (.p 12) (.p 11), none, none⟩]
@[simp] def eq304_3 := id q304_3.eq_1
def q304_4 : List AOper :=
  [⟨.move .look (.t 1), (some 6), none⟩,
    ⟨.indexAddr 1 (.t 6) (.c (.int .i64 3)), (some 7), none⟩,
    ⟨.load .head false 1 (.p 7), (some 8), none⟩]
@[simp] def eq304_4 := id q304_4.eq_1
def k304_0 : ACode :=
  .ops q304_0 .ret
@[simp] theorem xk304_0 : GoC fns Q s k304_0 st ↔ GoO fns Q s q304_0 .ret st := goC_ops
def k304_1 : ACode :=
  .ops q304_1 k304_0
@[simp] theorem xk304_1 : GoC fns Q s k304_1 st ↔ GoO fns Q s q304_1 k304_0 st := goC_ops
def k304_2 : ACode :=
  .ops q304_2 k304_1
@[simp] theorem xk304_2 : GoC fns Q s k304_2 st ↔ GoO fns Q s q304_2 k304_1 st := goC_ops
def k304_3 : ACode :=
  .ops q304_3 k304_2
@[simp] theorem xk304_3 : GoC fns Q s k304_3 st ↔ GoO fns Q s q304_3 k304_2 st := goC_ops
def k304_4 : ACode :=
  .ops q304_4 k304_3
@[simp] theorem xk304_4 : GoC fns Q s k304_4 st ↔ GoO fns Q s q304_4 k304_3 st := goC_ops
def k304_5 : ACode :=
  .ops [⟨.box 3 (.p 0), (some 3), none⟩] k304_4
@[simp] theorem xk304_5 : GoC fns Q s k304_5 st ↔ GoO fns Q s [⟨.box 3 (.p 0), (some 3), none⟩] k304_4 st := goC_ops
def af304 : AFunc := ⟨28, k304_5, [], fun _ _ => none⟩

theorem ok304 : ∃ hs, pFunc Tryz.prog sg hs Tryz.f304 = some af304 := ⟨fun i => if i == 9 then 1 else if i == 12 then 1 else if i == 13 then 1 else if i == 17 then 1 else if i == 18 then 1 else if i == 22 then 1 else if i == 23 then 1 else if i == 27 then 1 else 0, by kernel_rfl⟩
def q254_0 : List AOper :=
  [⟨.move .take (.t 0), (some 14), none⟩,
    ⟨.assign (.t 14), (some 6), none⟩]
@[simp] def eq254_0 := id q254_0.eq_1
def q254_1 : List AOper :=
  [⟨.load .look true 0 (.c (.gl 6)), (some 7), none⟩,
    ⟨.move .look (.m 0), (some 8), none⟩,
    ⟨.move .head (.p 1), (some 9), none⟩,
    ⟨.sliceSl 1 (.m 8) (some (.p 9)) none, (some 10), none⟩,
    ⟨.move .look (.p 2), (some 11), none⟩,
    ⟨.convInt .u32 (.p 11), (some 12), none⟩,
    ⟨.hcall 304 [(.p 7, false), (.m 10, false), (.p 12, false)], (some 13), none⟩]
@[simp] def eq254_1 := id q254_1.eq_1
def k254_0 : ACode :=
  .ops q254_0 .ret
@[simp] theorem xk254_0 : GoC fns Q s k254_0 st ↔ GoO fns Q s q254_0 .ret st := goC_ops
def k254_1 : ACode :=
  .ops q254_1 k254_0
@[simp] theorem xk254_1 : GoC fns Q s k254_1 st ↔ GoO fns Q s q254_1 k254_0 st := goC_ops
def k254_2 : ACode :=
  .ops [⟨.assign (.c (.slice .nil 0 1 [])), (some 6), none⟩] k254_1
@[simp] theorem xk254_2 : GoC fns Q s k254_2 st ↔ GoO fns Q s [⟨.assign (.c (.slice .nil 0 1 [])), (some 6), none⟩] k254_1 st := goC_ops
def af254 : AFunc := ⟨15, k254_2, [.tmp 6], fun _ _ => none⟩

theorem ok254 : ∃ hs, pFunc Tryz.prog sg hs Tryz.f254 = some af254 := ⟨fun i => if i == 8 then 1 else if i == 10 then 1 else 0, by kernel_rfl⟩
def q207_0 : List AOper :=
  [⟨.move .take (.t 0), (some 25), none⟩,
    ⟨.assign (.t 25), (some 4), none⟩,
    ⟨.assign (.c (.nilI)), (some 5), none⟩]
@[simp] def eq207_0 := id q207_0.eq_1
def q207_1 : List AOper :=
  [⟨.move .take (.t 0), (some 17), none⟩,
    ⟨.move .look (.p 1), (some 18), none⟩,
    ⟨.move .head (.t 0), (some 19), none⟩,
    ⟨.move .head (.p 1), (some 20), none⟩,
    ⟨.sliceSl 1 (.t 19) (some (.p 20)) none, (some 21), none⟩,
    ⟨.len false (.p 21), (some 22), none⟩,
    ⟨.convInt .i32 (.p 22), (some 23), none⟩,
    ⟨.call 254 [(.t 17, true), (.p 18, false), (.p 23, false)], (some 24), none⟩,
    ⟨.assign (.t 24), (some 0), none⟩]
@[simp] def eq207_1 := id q207_1.eq_1
def q207_2 : List AOper :=
  [⟨.move .take (.t 0), (some 14), none⟩,
    ⟨.buildSl 5 1 [.int .u8 0] [(0, 1, .c (.int .u8 0))], (some 15), none⟩,
    ⟨.append 5 1 1 false (.t 14) (.p 15), (some 16), none⟩,
    ⟨.assign (.t 16), (some 0), none⟩]
@[simp] def eq207_2 := id q207_2.eq_1
def q207_3 : List AOper :=
  [⟨.move .take (.t 0), (some 12), none⟩,
    ⟨.hcall 173 [(.c (.str [110, 111, 116, 32, 101, 110, 111, 117, 103, 104, 32, 98, 121, 116, 101, 115, 32, 97, 118, 97, 105, 108, 97, 98, 108, 101, 32, 97, 102, 116, 101, 114, 32, 105, 110, 100, 101, 120, 32, 116, 111, 32, 119, 114, 105, 116, 101, 32, 108, 101, 110, 103, 116, 104]), false)], (some 13), none⟩,
    ⟨.assign (.t 12), (some 4), none⟩,
    ⟨.assign (.p 13), (some 5), none⟩]
@[simp] def eq207_3 := id q207_3.eq_1
def q207_4 : List AOper :=
  [⟨.move .look (.p 1), (some 6), none⟩,
    ⟨.convInt .i64 (.p 6), (some 7), none⟩,
    ⟨.move .head (.t 0), (some 8), none⟩,
    ⟨.len false (.p 8), (some 9), none⟩,
    ⟨.bin .sub 1 true (.p 9) (.c (.int .i64 4)), (some 10), none⟩,
    ⟨.bin .gtr 1 false (.p 7) (.p 10), (some 11), none⟩]
@[simp] def eq207_4 := id q207_4.eq_1
def q207_5 : List AOper :=
  [⟨.assign (.c (.slice .nil 0 1 [])), (some 4), none⟩,
    ⟨.assign (.c (.nilI)), (some 5), none⟩]
@[simp] def eq207_5 := id q207_5.eq_1
def k207_0 : ACode :=
  .ops q207_0 .ret
@[simp] theorem xk207_0 : GoC fns Q s k207_0 st ↔ GoO fns Q s q207_0 .ret st := goC_ops
def k207_1 : ACode :=
  .ops q207_1 k207_0
@[simp] theorem xk207_1 : GoC fns Q s k207_1 st ↔ GoO fns Q s q207_1 k207_0 st := goC_ops
def k207_2 : ACode :=
  .ops q207_2 k207_1
@[simp] theorem xk207_2 : GoC fns Q s k207_2 st ↔ GoO fns Q s q207_2 k207_1 st := goC_ops
def k207_3 : ACode :=
  .ops q207_3 .ret
@[simp] theorem xk207_3 : GoC fns Q s k207_3 st ↔ GoO fns Q s q207_3 .ret st := goC_ops
def k207_4 : ACode :=
  .cond (.p 11) k207_3 .skip
@[simp] theorem xk207_4 : GoC fns Q s k207_4 st ↔ GB fns Q s (peek st (.p 11)) k207_3 .skip st := goC_cond
def k207_5 : ACode :=
  .seq k207_4 k207_2
@[simp] theorem xk207_5 : GoC fns Q s k207_5 st ↔ GoC fns Q (.sq k207_2 :: s) k207_4 st := goC_seq
def k207_6 : ACode :=
  .ops q207_4 k207_5
@[simp] theorem xk207_6 : GoC fns Q s k207_6 st ↔ GoO fns Q s q207_4 k207_5 st := goC_ops
def k207_7 : ACode :=
  .ops q207_5 k207_6
@[simp] theorem xk207_7 : GoC fns Q s k207_7 st ↔ GoO fns Q s q207_5 k207_6 st := goC_ops
def af207 : AFunc := ⟨26, k207_7, [.tmp 4, .tmp 5], fun _ _ => none⟩

theorem ok207 : ∃ hs, pFunc Tryz.prog sg hs Tryz.f207 = some af207 := ⟨fun i => 0, by kernel_rfl⟩
def q143_0 : List AOper :=
  [⟨.move .look (.p 0), (some 37), none⟩,
    ⟨.nilCheck (.p 37), (some 38), none⟩,
    ⟨.fieldAddr 0 (.p 38), (some 39), none⟩,
    ⟨.load .take false 1 (.p 39), (some 40), none⟩,
    ⟨.assign (.t 40), (some 2), none⟩]
@[simp] def eq143_0 := id q143_0.eq_1
def q143_1 : List AOper :=
  [⟨.move .look (.p 0), (some 28), none⟩,
    ⟨.move .look (.p 0), (some 29), none⟩,
    ⟨.nilCheck (.p 29), (some 30), none⟩,
    ⟨.fieldAddr 1 (.p 30), (some 31), none⟩,
    ⟨.load .look false 1 (.p 31), (some 32), none⟩,
    ⟨.move .head (.p 3), (some 33), none⟩,
    ⟨.sliceSl 1 (.t 32) none (some (.p 33)), (some 34), none⟩,
    ⟨.nilCheck (.p 28), (some 35), none⟩,
    ⟨.fieldAddr 1 (.p 35), (some 36), none⟩,
    ⟨.store 1 (.p 36) (.t 34), none, none⟩]
@[simp] def eq143_1 := id q143_1.eq_1
def q143_2 : List AOper :=
  [⟨.move .look (.p 0), (some 11), none⟩,
    ⟨.move .look (.p 0), (some 12), none⟩,
    ⟨.nilCheck (.p 12), (some 13), none⟩,
    ⟨.fieldAddr 0 (.p 13), (some 14), none⟩,
    ⟨.load .take false 1 (.p 14), (some 15), none⟩,
    ⟨.move .look (.p 0), (some 16), none⟩,
    ⟨.nilCheck (.p 16), (some 17), none⟩,
    ⟨.fieldAddr 1 (.p 17), (some 18), none⟩,
    ⟨.load .look false 1 (.p 18), (some 19), none⟩,
    ⟨.move .look (.p 3), (some 20), none⟩,
    ⟨.indexAddr 1 (.t 19) (.p 20), (some 21), none⟩,
    ⟨.load .look false 1 (.p 21), (some 22), none⟩,
    ⟨.hcall 207 [(.t 15, true), (.p 22, false)], (some 23), none⟩,
    ⟨.move .look (.t 23), (some 10), none⟩,
    ⟨.extract 10 0, (some 24), none⟩,
    ⟨.extract 10 1, (some 25), none⟩,
    ⟨.nilCheck (.p 11), (some 26), none⟩,
    ⟨.fieldAddr 0 (.p 26), (some 27), none⟩,
    ⟨.store 1 (.p 27) (.t 24), none, none⟩]
@[simp] def eq143_2 := id q143_2.eq_1
def q143_3 : List AOper :=
  [⟨.move .look (.p 0), (some 4), none⟩,
    ⟨.nilCheck (.p 4), (some 5), none⟩,
    ⟨.fieldAddr 1 (.p 5), (some 6), none⟩,
    ⟨.load .head false 1 (.p 6), (some 7), none⟩,
    ⟨.len false (.p 7), (some 8), none⟩,
    ⟨.bin .sub 1 true (.p 8) (.c (.int .i64 1)), (some 9), none⟩,
    ⟨.assign (.p 9), (some 3), none⟩]
@[simp] def eq143_3 := id q143_3.eq_1
def k143_0 : ACode :=
  .ops q143_0 .ret
@[simp] theorem xk143_0 : GoC fns Q s k143_0 st ↔ GoO fns Q s q143_0 .ret st := goC_ops
def k143_1 : ACode :=
  .ops q143_1 k143_0
@[simp] theorem xk143_1 : GoC fns Q s k143_1 st ↔ GoO fns Q s q143_1 k143_0 st := goC_ops
def k143_2 : ACode :=
  .ops q143_2 k143_1
@[simp] theorem xk143_2 : GoC fns Q s k143_2 st ↔ GoO fns Q s q143_2 k143_1 st := goC_ops
def k143_3 : ACode :=
  .ops q143_3 k143_2
@[simp] theorem xk143_3 : GoC fns Q s k143_3 st ↔ GoO fns Q s q143_3 k143_2 st := goC_ops
def k143_4 : ACode :=
  .ops [⟨.assign (.c (.slice .nil 0 1 [])), (some 2), none⟩] k143_3
@[simp] theorem xk143_4 : GoC fns Q s k143_4 st ↔ GoO fns Q s [⟨.assign (.c (.slice .nil 0 1 [])), (some 2), none⟩] k143_3 st := goC_ops
def af143 : AFunc := ⟨41, k143_4, [.tmp 2], fun _ _ => none⟩

theorem ok143 : ∃ hs, pFunc Tryz.prog sg hs Tryz.f143 = some af143 := ⟨fun i => 0, by kernel_rfl⟩
def q56_0 : List AOper :=
  [⟨.move .look (.p 3), (some 8), none⟩,
    ⟨.hcall 143 [(.p 8, false)], (some 9), none⟩,
    ⟨.assign (.t 9), (some 2), none⟩]
@[simp] def eq56_0 := id q56_0.eq_1
def q56_1 : List AOper :=
  [⟨.move .look (.p 3), (some 5), none⟩,
    ⟨.move .look (.t 0), (some 6), none⟩,
    ⟨.hcall 142 [(.p 5, false), (.t 6, false)], (some 7), none⟩]
@[simp] def eq56_1 := id q56_1.eq_1
def q56_2 : List AOper :=
  [⟨.hcall 141 [], (some 4), none⟩,
    ⟨.assign (.p 4), (some 3), none⟩]
@[simp] def eq56_2 := id q56_2.eq_1
def k56_0 : ACode :=
  .ops q56_0 .ret
@[simp] theorem xk56_0 : GoC fns Q s k56_0 st ↔ GoO fns Q s q56_0 .ret st := goC_ops
def k56_1 : ACode :=
  .ops q56_1 k56_0
@[simp] theorem xk56_1 : GoC fns Q s k56_1 st ↔ GoO fns Q s q56_1 k56_0 st := goC_ops
def k56_2 : ACode :=
  .ops q56_2 k56_1
@[simp] theorem xk56_2 : GoC fns Q s k56_2 st ↔ GoO fns Q s q56_2 k56_1 st := goC_ops
def k56_3 : ACode :=
  .ops [⟨.assign (.c (.slice .nil 0 1 [])), (some 2), none⟩] k56_2
@[simp] theorem xk56_3 : GoC fns Q s k56_3 st ↔ GoO fns Q s [⟨.assign (.c (.slice .nil 0 1 [])), (some 2), none⟩] k56_2 st := goC_ops
def af56 : AFunc := ⟨10, k56_3, [.tmp 2], fun _ _ => none⟩

theorem ok56 : ∃ hs, pFunc Tryz.prog sg hs Tryz.f56 = some af56 := ⟨fun i => 0, by kernel_rfl⟩
def q210_0 : List AOper :=
  [⟨.move .look (.t 0), (some 26), none⟩,
    ⟨.move .head (.p 5), (some 27), none⟩,
    ⟨.sliceSl 1 (.t 26) none (some (.p 27)), (some 28), none⟩,
    ⟨.move .look (.t 0), (some 29), none⟩,
    ⟨.move .head (.p 5), (some 30), none⟩,
    ⟨.sliceSl 1 (.t 29) (some (.p 30)) none, (some 31), none⟩,
    ⟨.assign (.t 28), (some 2), none⟩,
    ⟨.assign (.t 31), (some 3), none⟩,
    ⟨.assign (.c (.bool true)), (some 4), none⟩]
@[simp] def eq210_0 := id q210_0.eq_1
def q210_1 : List AOper :=
  [⟨.move .take (.t 0), (some 25), none⟩,
    ⟨.assign (.c (.slice .nil 0 1 [])), (some 2), none⟩,
    ⟨.assign (.t 25), (some 3), none⟩,
    ⟨.assign (.c (.bool false)), (some 4), none⟩]
@[simp] def eq210_1 := id q210_1.eq_1
def q210_2 : List AOper :=
  [⟨.move .head (.t 0), (some 20), none⟩,
    ⟨.len false (.p 20), (some 21), none⟩,
    ⟨.move .look (.p 5), (some 22), none⟩,
    ⟨.convInt .i64 (.p 22), (some 23), none⟩,
    ⟨.bin .lss 1 false (.p 21) (.p 23), (some 24), none⟩]
@[simp] def eq210_2 := id q210_2.eq_1
def q210_3 : List AOper :=
  [⟨.move .take (.t 0), (some 19), none⟩,
    ⟨.assign (.c (.slice .nil 0 1 [])), (some 2), none⟩,
    ⟨.assign (.t 19), (some 3), none⟩,
    ⟨.assign (.c (.bool false)), (some 4), none⟩]
@[simp] def eq210_3 := id q210_3.eq_1
def q210_4 : List AOper :=
  [⟨.move .look (.p 5), (some 17), none⟩,
    ⟨.bin .lss 1 true (.p 17) (.c (.int .i32 4)), (some 18), none⟩]
@[simp] def eq210_4 := id q210_4.eq_1
def q210_5 : List AOper :=
  [⟨.move .take (.t 0), (some 16), none⟩,
    ⟨.assign (.c (.slice .nil 0 1 [])), (some 2), none⟩,
    ⟨.assign (.t 16), (some 3), none⟩,
    ⟨.assign (.c (.bool false)), (some 4), none⟩]
@[simp] def eq210_5 := id q210_5.eq_1
def q210_6 : List AOper :=
  [⟨.move .look (.p 7), (some 14), none⟩,
    ⟨.un .not (.p 14), (some 15), none⟩]
@[simp] def eq210_6 := id q210_6.eq_1
def q210_7 : List AOper :=
  [⟨.move .look (.t 0), (some 9), none⟩,
    ⟨.call 54 [(.t 9, false)], (some 10), none⟩,
    ⟨.move .look (.t 10), (some 8), none⟩,
    ⟨.extract 8 0, (some 11), none⟩,
    ⟨.extract 8 1, (some 12), none⟩,
    ⟨.extract 8 2, (some 13), none⟩,
    ⟨.assign (.p 11), (some 5), none⟩,
    ⟨.assign (.t 12), (some 6), none⟩,
    ⟨.assign (.p 13), (some 7), none⟩]
@[simp] def eq210_7 := id q210_7.eq_1
def q210_8 : List AOper :=
  [⟨.assign (.c (.slice .nil 0 1 [])), (some 2), none⟩,
    ⟨.assign (.c (.slice .nil 0 1 [])), (some 3), none⟩,
    ⟨.assign (.c (.bool false)), (some 4), none⟩]
@[simp] def eq210_8 := id q210_8.eq_1
def k210_0 : ACode :=
  .ops q210_0 .ret
@[simp] theorem xk210_0 : GoC fns Q s k210_0 st ↔ GoO fns Q s q210_0 .ret st := goC_ops
def k210_1 : ACode :=
  .ops q210_1 .ret
@[simp] theorem xk210_1 : GoC fns Q s k210_1 st ↔ GoO fns Q s q210_1 .ret st := goC_ops
def k210_2 : ACode :=
  .cond (.p 24) k210_1 .skip
@[simp] theorem xk210_2 : GoC fns Q s k210_2 st ↔ GB fns Q s (peek st (.p 24)) k210_1 .skip st := goC_cond
def k210_3 : ACode :=
  .seq k210_2 k210_0
@[simp] theorem xk210_3 : GoC fns Q s k210_3 st ↔ GoC fns Q (.sq k210_0 :: s) k210_2 st := goC_seq
def k210_4 : ACode :=
  .ops q210_2 k210_3
@[simp] theorem xk210_4 : GoC fns Q s k210_4 st ↔ GoO fns Q s q210_2 k210_3 st := goC_ops
def k210_5 : ACode :=
  .ops q210_3 .ret
@[simp] theorem xk210_5 : GoC fns Q s k210_5 st ↔ GoO fns Q s q210_3 .ret st := goC_ops
def k210_6 : ACode :=
  .cond (.p 18) k210_5 .skip
@[simp] theorem xk210_6 : GoC fns Q s k210_6 st ↔ GB fns Q s (peek st (.p 18)) k210_5 .skip st := goC_cond
def k210_7 : ACode :=
  .seq k210_6 k210_4
@[simp] theorem xk210_7 : GoC fns Q s k210_7 st ↔ GoC fns Q (.sq k210_4 :: s) k210_6 st := goC_seq
def k210_8 : ACode :=
  .ops q210_4 k210_7
@[simp] theorem xk210_8 : GoC fns Q s k210_8 st ↔ GoO fns Q s q210_4 k210_7 st := goC_ops
def k210_9 : ACode :=
  .ops q210_5 .ret
@[simp] theorem xk210_9 : GoC fns Q s k210_9 st ↔ GoO fns Q s q210_5 .ret st := goC_ops
def k210_10 : ACode :=
  .cond (.p 15) k210_9 .skip
@[simp] theorem xk210_10 : GoC fns Q s k210_10 st ↔ GB fns Q s (peek st (.p 15)) k210_9 .skip st := goC_cond
def k210_11 : ACode :=
  .seq k210_10 k210_8
@[simp] theorem xk210_11 : GoC fns Q s k210_11 st ↔ GoC fns Q (.sq k210_8 :: s) k210_10 st := goC_seq
def k210_12 : ACode :=
  .ops q210_6 k210_11
@[simp] theorem xk210_12 : GoC fns Q s k210_12 st ↔ GoO fns Q s q210_6 k210_11 st := goC_ops
def k210_13 : ACode :=
  .ops q210_7 k210_12
@[simp] theorem xk210_13 : GoC fns Q s k210_13 st ↔ GoO fns Q s q210_7 k210_12 st := goC_ops
def k210_14 : ACode :=
  .ops q210_8 k210_13
@[simp] theorem xk210_14 : GoC fns Q s k210_14 st ↔ GoO fns Q s q210_8 k210_13 st := goC_ops
def af210 : AFunc := ⟨32, k210_14, [.tmp 2, .tmp 3, .tmp 4], fun _ _ => none⟩

theorem ok210 : ∃ hs, pFunc Tryz.prog sg hs Tryz.f210 = some af210 := ⟨fun i => 0, by kernel_rfl⟩
def q146_0 : List AOper :=
  [⟨.move .look (.t 0), (some 5), none⟩,
    ⟨.call 210 [(.t 5, false)], (some 6), none⟩,
    ⟨.extract 6 0, (some 7), none⟩,
    ⟨.extract 6 1, (some 8), none⟩,
    ⟨.extract 6 2, (some 9), none⟩,
    ⟨.assign (.t 7), (some 2), none⟩,
    ⟨.assign (.t 8), (some 3), none⟩,
    ⟨.assign (.p 9), (some 4), none⟩]
@[simp] def eq146_0 := id q146_0.eq_1
def q146_1 : List AOper :=
  [⟨.assign (.c (.slice .nil 0 1 [])), (some 2), none⟩,
    ⟨.assign (.c (.slice .nil 0 1 [])), (some 3), none⟩,
    ⟨.assign (.c (.bool false)), (some 4), none⟩]
@[simp] def eq146_1 := id q146_1.eq_1
def k146_0 : ACode :=
  .ops q146_0 .ret
@[simp] theorem xk146_0 : GoC fns Q s k146_0 st ↔ GoO fns Q s q146_0 .ret st := goC_ops
def k146_1 : ACode :=
  .ops q146_1 k146_0
@[simp] theorem xk146_1 : GoC fns Q s k146_1 st ↔ GoO fns Q s q146_1 k146_0 st := goC_ops
def af146 : AFunc := ⟨10, k146_1, [.tmp 2, .tmp 3, .tmp 4], fun _ _ => none⟩

theorem ok146 : ∃ hs, pFunc Tryz.prog sg hs Tryz.f146 = some af146 := ⟨fun i => 0, by kernel_rfl⟩
def q147_0 : List AOper :=
  [⟨.move .look (.t 0), (some 5), none⟩,
    ⟨.call 210 [(.t 5, false)], (some 6), none⟩,
    ⟨.extract 6 0, (some 7), none⟩,
    ⟨.extract 6 1, (some 8), none⟩,
    ⟨.extract 6 2, (some 9), none⟩,
    ⟨.assign (.t 7), (some 2), none⟩,
    ⟨.assign (.t 8), (some 3), none⟩,
    ⟨.assign (.p 9), (some 4), none⟩]
@[simp] def eq147_0 := id q147_0.eq_1
def q147_1 : List AOper :=
  [⟨.assign (.c (.slice .nil 0 1 [])), (some 2), none⟩,
    ⟨.assign (.c (.slice .nil 0 1 [])), (some 3), none⟩,
    ⟨.assign (.c (.bool false)), (some 4), none⟩]
@[simp] def eq147_1 := id q147_1.eq_1
def k147_0 : ACode :=
  .ops q147_0 .ret
@[simp] theorem xk147_0 : GoC fns Q s k147_0 st ↔ GoO fns Q s q147_0 .ret st := goC_ops
def k147_1 : ACode :=
  .ops q147_1 k147_0
@[simp] theorem xk147_1 : GoC fns Q s k147_1 st ↔ GoO fns Q s q147_1 k147_0 st := goC_ops
def af147 : AFunc := ⟨10, k147_1, [.tmp 2, .tmp 3, .tmp 4], fun _ _ => none⟩

theorem ok147 : ∃ hs, pFunc Tryz.prog sg hs Tryz.f147 = some af147 := ⟨fun i => 0, by kernel_rfl⟩
def q157_0 : List AOper :=
  [⟨.move .look (.t 0), (some 5), none⟩,
    ⟨.call 140 [(.t 5, false)], (some 6), none⟩,
    ⟨.extract 6 0, (some 7), none⟩,
    ⟨.extract 6 1, (some 8), none⟩,
    ⟨.extract 6 2, (some 9), none⟩,
    ⟨.assign (.p 7), (some 2), none⟩,
    ⟨.assign (.t 8), (some 3), none⟩,
    ⟨.assign (.p 9), (some 4), none⟩]
@[simp] def eq157_0 := id q157_0.eq_1
def q157_1 : List AOper :=
  [⟨.assign (.c (.int .i32 0)), (some 2), none⟩,
    ⟨.assign (.c (.slice .nil 0 1 [])), (some 3), none⟩,
    ⟨.assign (.c (.bool false)), (some 4), none⟩]
@[simp] def eq157_1 := id q157_1.eq_1
def k157_0 : ACode :=
  .ops q157_0 .ret
@[simp] theorem xk157_0 : GoC fns Q s k157_0 st ↔ GoO fns Q s q157_0 .ret st := goC_ops
def k157_1 : ACode :=
  .ops q157_1 k157_0
@[simp] theorem xk157_1 : GoC fns Q s k157_1 st ↔ GoO fns Q s q157_1 k157_0 st := goC_ops
def af157 : AFunc := ⟨10, k157_1, [.tmp 2, .tmp 3, .tmp 4], fun _ _ => none⟩

theorem ok157 : ∃ hs, pFunc Tryz.prog sg hs Tryz.f157 = some af157 := ⟨fun i => 0, by kernel_rfl⟩
def q57_0 : List AOper :=
  [⟨.load .take true 8 (.p 4), (some 225), none⟩,
    ⟨.move .look (.t 5), (some 226), none⟩,
    ⟨.move .take (.p 6), (some 228), none⟩,
    ⟨.call 55 [(.t 226, false)], (some 227), none⟩,
    ⟨.store 8 (.p 4) (.p 225), none, none⟩,
    ⟨.assign (.t 227), (some 5), none⟩,
    ⟨.assign (.p 228), (some 6), none⟩]
@[simp] def eq57_0 := id q57_0.eq_1
def q57_1 : List AOper :=
  [⟨.build [.int .i64 0, .str [], .str [], .int .i64 0, .int .u64 0, .int .u64 0, .slice .nil 0 1 [], .slice .nil 0 1 []] [], (some 224), none⟩,
    ⟨.store 8 (.p 4) (.p 224), none, none⟩]
@[simp] def eq57_1 := id q57_1.eq_1
def q57_2 : List AOper :=
  [⟨.move .look (.p 6), (some 222), none⟩,
    ⟨.un .not (.p 222), (some 223), none⟩]
@[simp] def eq57_2 := id q57_2.eq_1
def q57_3 : List AOper :=
  [⟨.move .look (.p 7), (some 36), none⟩,
    ⟨.px (.fb 0) [.p 36], (some 37), none⟩,
    ⟨.fieldAddr 4 (.p 4), (some 38), none⟩,
    ⟨.store 1 (.p 38) (.p 37), none, none⟩]
@[simp] def eq57_3 := id q57_3.eq_1
def q57_4 : List AOper :=
  [⟨.move .look (.t 1), (some 31), none⟩,
    ⟨.call 144 [(.t 31, false)], (some 32), none⟩,
    ⟨.move .look (.t 32), (some 30), none⟩,
    ⟨.extract 30 0, (some 33), none⟩,
    ⟨.extract 30 1, (some 34), none⟩,
    ⟨.extract 30 2, (some 35), none⟩,
    ⟨.assign (.p 33), (some 7), none⟩,
    ⟨.assign (.t 34), (some 5), none⟩,
    ⟨.assign (.p 35), (some 6), none⟩]
@[simp] def eq57_4 := id q57_4.eq_1
def q57_5 : List AOper :=
  [⟨.move .look (.t 1), (some 42), none⟩,
    ⟨.call 145 [(.t 42, false)], (some 43), none⟩,
    ⟨.move .look (.t 43), (some 41), none⟩,
    ⟨.extract 41 0, (some 44), none⟩,
    ⟨.extract 41 1, (some 45), none⟩,
    ⟨.extract 41 2, (some 46), none⟩,
    ⟨.fieldAddr 1 (.p 4), (some 47), none⟩,
    ⟨.store 1 (.p 47) (.p 44), none, none⟩,
    ⟨.assign (.t 45), (some 5), none⟩,
    ⟨.assign (.p 46), (some 6), none⟩]
@[simp] def eq57_5 := id q57_5.eq_1
def q57_6 : List AOper :=
  [⟨.move .look (.t 8), (some 56), none⟩,
    ⟨.call 55 [(.t 56, false)], (some 57), none⟩,
    ⟨.fieldAddr 6 (.p 4), (some 58), none⟩,
    ⟨.store 1 (.p 58) (.t 57), none, none⟩]
@[simp] def eq57_6 := id q57_6.eq_1
def q57_7 : List AOper :=
  [⟨.move .look (.t 1), (some 51), none⟩,
    ⟨.call 146 [(.t 51, false)], (some 52), none⟩,
    ⟨.move .look (.t 52), (some 50), none⟩,
    ⟨.extract 50 0, (some 53), none⟩,
    ⟨.extract 50 1, (some 54), none⟩,
    ⟨.extract 50 2, (some 55), none⟩,
    ⟨.assign (.t 53), (some 8), none⟩,
    ⟨.assign (.t 54), (some 5), none⟩,
    ⟨.assign (.p 55), (some 6), none⟩]
@[simp] def eq57_7 := id q57_7.eq_1
def q57_8 : List AOper :=
  [⟨.move .look (.t 9), (some 67), none⟩,
    ⟨.call 55 [(.t 67, false)], (some 68), none⟩,
    ⟨.fieldAddr 6 (.p 4), (some 69), none⟩,
    ⟨.store 1 (.p 69) (.t 68), none, none⟩]
@[simp] def eq57_8 := id q57_8.eq_1
def q57_9 : List AOper :=
  [⟨.move .look (.t 1), (some 62), none⟩,
    ⟨.call 147 [(.t 62, false)], (some 63), none⟩,
    ⟨.move .look (.t 63), (some 61), none⟩,
    ⟨.extract 61 0, (some 64), none⟩,
    ⟨.extract 61 1, (some 65), none⟩,
    ⟨.extract 61 2, (some 66), none⟩,
    ⟨.assign (.t 64), (some 9), none⟩,
    ⟨.assign (.t 65), (some 5), none⟩,
    ⟨.assign (.p 66), (some 6), none⟩]
@[simp] def eq57_9 := id q57_9.eq_1
def q57_10 : List AOper :=
  [⟨.move .look (.p 10), (some 80), none⟩,
    ⟨.convInt .i64 (.p 80), (some 81), none⟩,
    ⟨.fieldAddr 6 (.p 4), (some 82), none⟩,
    ⟨.load .look false 1 (.p 82), (some 83), none⟩,
    ⟨.call 55 [(.t 83, false)], (some 84), none⟩,
    ⟨.fieldAddr 3 (.p 4), (some 85), none⟩,
    ⟨.store 1 (.p 85) (.p 81), none, none⟩,
    ⟨.fieldAddr 6 (.p 4), (some 86), none⟩,
    ⟨.store 1 (.p 86) (.t 84), none, none⟩]
@[simp] def eq57_10 := id q57_10.eq_1
def q57_11 : List AOper :=
  [⟨.move .look (.t 1), (some 73), none⟩,
    ⟨.call 148 [(.t 73, false)], (some 74), none⟩,
    ⟨.move .look (.t 74), (some 72), none⟩,
    ⟨.extract 72 0, (some 75), none⟩,
    ⟨.extract 72 1, (some 76), none⟩,
    ⟨.extract 72 2, (some 77), none⟩,
    ⟨.extract 72 3, (some 78), none⟩,
    ⟨.assign (.p 75), (some 10), none⟩,
    ⟨.fieldAddr 6 (.p 4), (some 79), none⟩,
    ⟨.store 1 (.p 79) (.t 76), none, none⟩,
    ⟨.assign (.t 77), (some 5), none⟩,
    ⟨.assign (.p 78), (some 6), none⟩]
@[simp] def eq57_11 := id q57_11.eq_1
def q57_12 : List AOper :=
  [⟨.px (.slArr 12 5 1) [.p 11, .c (.int .i64 0), .c (.int .i64 12)], (some 95), none⟩,
    ⟨.call 55 [(.t 95, false)], (some 96), none⟩,
    ⟨.fieldAddr 6 (.p 4), (some 97), none⟩,
    ⟨.store 1 (.p 97) (.t 96), none, none⟩]
@[simp] def eq57_12 := id q57_12.eq_1
def q57_13 : List AOper :=
  [⟨.move .look (.t 1), (some 90), none⟩,
    ⟨.call 149 [(.t 90, false)], (some 91), none⟩,
    ⟨.move .look (.t 91), (some 89), none⟩,
    ⟨.extract 89 0, (some 92), none⟩,
    ⟨.extract 89 1, (some 93), none⟩,
    ⟨.extract 89 2, (some 94), none⟩,
    ⟨.store 12 (.p 11) (.p 92), none, none⟩,
    ⟨.assign (.t 93), (some 5), none⟩,
    ⟨.assign (.p 94), (some 6), none⟩]
@[simp] def eq57_13 := id q57_13.eq_1
def q57_14 : List AOper :=
  [⟨.move .look (.p 12), (some 106), none⟩,
    ⟨.call 87 [(.p 106, false)], (some 107), none⟩,
    ⟨.fieldAddr 3 (.p 4), (some 108), none⟩,
    ⟨.store 1 (.p 108) (.p 107), none, none⟩]
@[simp] def eq57_14 := id q57_14.eq_1
def q57_15 : List AOper :=
  [⟨.move .look (.t 1), (some 101), none⟩,
    ⟨.call 150 [(.t 101, false)], (some 102), none⟩,
    ⟨.move .look (.t 102), (some 100), none⟩,
    ⟨.extract 100 0, (some 103), none⟩,
    ⟨.extract 100 1, (some 104), none⟩,
    ⟨.extract 100 2, (some 105), none⟩,
    ⟨.assign (.p 103), (some 12), none⟩,
    ⟨.assign (.t 104), (some 5), none⟩,
    ⟨.assign (.p 105), (some 6), none⟩]
@[simp] def eq57_15 := id q57_15.eq_1
def q57_16 : List AOper :=
  [⟨.move .look (.t 1), (some 112), none⟩,
    ⟨.call 151 [(.t 112, false)], (some 113), none⟩,
    ⟨.move .look (.t 113), (some 111), none⟩,
    ⟨.extract 111 0, (some 114), none⟩,
    ⟨.extract 111 1, (some 115), none⟩,
    ⟨.extract 111 2, (some 116), none⟩,
    ⟨.fieldAddr 3 (.p 4), (some 117), none⟩,
    ⟨.store 1 (.p 117) (.p 114), none, none⟩,
    ⟨.assign (.t 115), (some 5), none⟩,
    ⟨.assign (.p 116), (some 6), none⟩]
@[simp] def eq57_16 := id q57_16.eq_1
def q57_17 : List AOper :=
  [⟨.move .look (.t 1), (some 121), none⟩,
    ⟨.call 152 [(.t 121, false)], (some 122), none⟩,
    ⟨.move .look (.t 122), (some 120), none⟩,
    ⟨.extract 120 0, (some 123), none⟩,
    ⟨.extract 120 1, (some 124), none⟩,
    ⟨.extract 120 2, (some 125), none⟩,
    ⟨.extract 120 3, (some 126), none⟩,
    ⟨.fieldAddr 1 (.p 4), (some 127), none⟩,
    ⟨.store 1 (.p 127) (.p 123), none, none⟩,
    ⟨.fieldAddr 2 (.p 4), (some 128), none⟩,
    ⟨.store 1 (.p 128) (.p 124), none, none⟩,
    ⟨.assign (.t 125), (some 5), none⟩,
    ⟨.assign (.p 126), (some 6), none⟩]
@[simp] def eq57_17 := id q57_17.eq_1
def q57_18 : List AOper :=
  [⟨.px (.slArr 12 5 1) [.p 13, .c (.int .i64 0), .c (.int .i64 12)], (some 139), none⟩,
    ⟨.call 55 [(.t 139, false)], (some 140), none⟩,
    ⟨.fieldAddr 6 (.p 4), (some 141), none⟩,
    ⟨.store 1 (.p 141) (.t 140), none, none⟩]
@[simp] def eq57_18 := id q57_18.eq_1
def q57_19 : List AOper :=
  [⟨.move .look (.t 1), (some 132), none⟩,
    ⟨.call 153 [(.t 132, false)], (some 133), none⟩,
    ⟨.move .look (.t 133), (some 131), none⟩,
    ⟨.extract 131 0, (some 134), none⟩,
    ⟨.extract 131 1, (some 135), none⟩,
    ⟨.extract 131 2, (some 136), none⟩,
    ⟨.extract 131 3, (some 137), none⟩,
    ⟨.fieldAddr 1 (.p 4), (some 138), none⟩,
    ⟨.store 1 (.p 138) (.p 134), none, none⟩,
    ⟨.store 12 (.p 13) (.p 135), none, none⟩,
    ⟨.assign (.t 136), (some 5), none⟩,
    ⟨.assign (.p 137), (some 6), none⟩]
@[simp] def eq57_19 := id q57_19.eq_1
def q57_20 : List AOper :=
  [⟨.move .look (.t 1), (some 145), none⟩,
    ⟨.call 154 [(.t 145, false)], (some 146), none⟩,
    ⟨.move .look (.t 146), (some 144), none⟩,
    ⟨.extract 144 0, (some 147), none⟩,
    ⟨.extract 144 1, (some 148), none⟩,
    ⟨.extract 144 2, (some 149), none⟩,
    ⟨.fieldAddr 1 (.p 4), (some 150), none⟩,
    ⟨.store 1 (.p 150) (.p 147), none, none⟩,
    ⟨.assign (.t 148), (some 5), none⟩,
    ⟨.assign (.p 149), (some 6), none⟩]
@[simp] def eq57_20 := id q57_20.eq_1
def q57_21 : List AOper :=
  [⟨.move .look (.t 1), (some 154), none⟩,
    ⟨.call 155 [(.t 154, false)], (some 155), none⟩,
    ⟨.move .look (.t 155), (some 153), none⟩,
    ⟨.extract 153 0, (some 156), none⟩,
    ⟨.extract 153 1, (some 157), none⟩,
    ⟨.extract 153 2, (some 158), none⟩,
    ⟨.fieldAddr 1 (.p 4), (some 159), none⟩,
    ⟨.store 1 (.p 159) (.p 156), none, none⟩,
    ⟨.assign (.t 157), (some 5), none⟩,
    ⟨.assign (.p 158), (some 6), none⟩]
@[simp] def eq57_21 := id q57_21.eq_1
def q57_22 : List AOper :=
  [⟨.fieldAddr 6 (.p 4), (some 171), none⟩,
    ⟨.load .look false 1 (.p 171), (some 172), none⟩,
    ⟨.call 55 [(.t 172, false)], (some 173), none⟩,
    ⟨.fieldAddr 6 (.p 4), (some 174), none⟩,
    ⟨.store 1 (.p 174) (.t 173), none, none⟩]
@[simp] def eq57_22 := id q57_22.eq_1
def q57_23 : List AOper :=
  [⟨.move .look (.t 1), (some 163), none⟩,
    ⟨.call 156 [(.t 163, false)], (some 164), none⟩,
    ⟨.move .look (.t 164), (some 162), none⟩,
    ⟨.extract 162 0, (some 165), none⟩,
    ⟨.extract 162 1, (some 166), none⟩,
    ⟨.extract 162 2, (some 167), none⟩,
    ⟨.extract 162 3, (some 168), none⟩,
    ⟨.fieldAddr 1 (.p 4), (some 169), none⟩,
    ⟨.store 1 (.p 169) (.p 165), none, none⟩,
    ⟨.fieldAddr 6 (.p 4), (some 170), none⟩,
    ⟨.store 1 (.p 170) (.t 166), none, none⟩,
    ⟨.assign (.t 167), (some 5), none⟩,
    ⟨.assign (.p 168), (some 6), none⟩]
@[simp] def eq57_23 := id q57_23.eq_1
def q57_24 : List AOper :=
  [⟨.move .look (.p 14), (some 183), none⟩,
    ⟨.convInt .i64 (.p 183), (some 184), none⟩,
    ⟨.fieldAddr 3 (.p 4), (some 185), none⟩,
    ⟨.store 1 (.p 185) (.p 184), none, none⟩]
@[simp] def eq57_24 := id q57_24.eq_1
def q57_25 : List AOper :=
  [⟨.move .look (.t 1), (some 178), none⟩,
    ⟨.call 157 [(.t 178, false)], (some 179), none⟩,
    ⟨.move .look (.t 179), (some 177), none⟩,
    ⟨.extract 177 0, (some 180), none⟩,
    ⟨.extract 177 1, (some 181), none⟩,
    ⟨.extract 177 2, (some 182), none⟩,
    ⟨.assign (.p 180), (some 14), none⟩,
    ⟨.assign (.t 181), (some 5), none⟩,
    ⟨.assign (.p 182), (some 6), none⟩]
@[simp] def eq57_25 := id q57_25.eq_1
def q57_26 : List AOper :=
  [⟨.move .look (.p 15), (some 195), none⟩,
    ⟨.convInt .u64 (.p 195), (some 196), none⟩,
    ⟨.bin .shl 1 true (.p 196) (.c (.int .u64 32)), (some 197), none⟩,
    ⟨.move .look (.p 16), (some 198), none⟩,
    ⟨.convInt .u64 (.p 198), (some 199), none⟩,
    ⟨.bin .or 1 false (.p 197) (.p 199), (some 200), none⟩,
    ⟨.fieldAddr 4 (.p 4), (some 201), none⟩,
    ⟨.store 1 (.p 201) (.p 200), none, none⟩]
@[simp] def eq57_26 := id q57_26.eq_1
def q57_27 : List AOper :=
  [⟨.move .look (.t 1), (some 189), none⟩,
    ⟨.call 158 [(.t 189, false)], (some 190), none⟩,
    ⟨.move .look (.t 190), (some 188), none⟩,
    ⟨.extract 188 0, (some 191), none⟩,
    ⟨.extract 188 1, (some 192), none⟩,
    ⟨.extract 188 2, (some 193), none⟩,
    ⟨.extract 188 3, (some 194), none⟩,
    ⟨.assign (.p 191), (some 15), none⟩,
    ⟨.assign (.p 192), (some 16), none⟩,
    ⟨.assign (.t 193), (some 5), none⟩,
    ⟨.assign (.p 194), (some 6), none⟩]
@[simp] def eq57_27 := id q57_27.eq_1
def q57_28 : List AOper :=
  [⟨.assign (.c (.int .u32 0)), (some 15), none⟩,
    ⟨.assign (.c (.int .u32 0)), (some 16), none⟩]
@[simp] def eq57_28 := id q57_28.eq_1
def q57_29 : List AOper :=
  [⟨.move .look (.t 1), (some 205), none⟩,
    ⟨.call 159 [(.t 205, false)], (some 206), none⟩,
    ⟨.move .look (.t 206), (some 204), none⟩,
    ⟨.extract 204 0, (some 207), none⟩,
    ⟨.extract 204 1, (some 208), none⟩,
    ⟨.extract 204 2, (some 209), none⟩,
    ⟨.fieldAddr 3 (.p 4), (some 210), none⟩,
    ⟨.store 1 (.p 210) (.p 207), none, none⟩,
    ⟨.assign (.t 208), (some 5), none⟩,
    ⟨.assign (.p 209), (some 6), none⟩]
@[simp] def eq57_29 := id q57_29.eq_1
def q57_30 : List AOper :=
  [⟨.move .look (.t 1), (some 214), none⟩,
    ⟨.call 160 [(.t 214, false)], (some 215), none⟩,
    ⟨.move .look (.t 215), (some 213), none⟩,
    ⟨.extract 213 0, (some 216), none⟩,
    ⟨.extract 213 1, (some 217), none⟩,
    ⟨.extract 213 2, (some 218), none⟩,
    ⟨.extract 213 3, (some 219), none⟩,
    ⟨.fieldAddr 5 (.p 4), (some 220), none⟩,
    ⟨.store 1 (.p 220) (.p 216), none, none⟩,
    ⟨.fieldAddr 4 (.p 4), (some 221), none⟩,
    ⟨.store 1 (.p 221) (.p 217), none, none⟩,
    ⟨.assign (.t 218), (some 5), none⟩,
    ⟨.assign (.p 219), (some 6), none⟩]
@[simp] def eq57_30 := id q57_30.eq_1
def q57_31 : List AOper :=
  [⟨.move .look (.t 1), (some 21), none⟩,
    ⟨.move .look (.p 0), (some 22), none⟩,
    ⟨.convInt .u8 (.p 22), (some 23), none⟩,
    ⟨.call 61 [(.t 21, false), (.p 23, false)], (some 24), none⟩,
    ⟨.move .look (.t 24), (some 20), none⟩,
    ⟨.extract 20 0, (some 25), none⟩,
    ⟨.extract 20 1, (some 26), none⟩,
    ⟨.extract 20 2, (some 27), none⟩,
    ⟨.assign (.t 26), (some 5), none⟩,
    ⟨.assign (.p 27), (some 6), none⟩]
@[simp] def eq57_31 := id q57_31.eq_1
def q57_32 : List AOper :=
  [⟨.bin .eql 1 true (.p 19) (.c (.int .i64 19)), (some 212), none⟩,
    ⟨.assign (.p 212), (some 211), none⟩]
@[simp] def eq57_32 := id q57_32.eq_1
def q57_33 : List AOper :=
  [⟨.bin .eql 1 true (.p 19) (.c (.int .i64 18)), (some 203), none⟩,
    ⟨.assign (.p 203), (some 202), none⟩]
@[simp] def eq57_33 := id q57_33.eq_1
def q57_34 : List AOper :=
  [⟨.bin .eql 1 true (.p 19) (.c (.int .i64 17)), (some 187), none⟩,
    ⟨.assign (.p 187), (some 186), none⟩]
@[simp] def eq57_34 := id q57_34.eq_1
def q57_35 : List AOper :=
  [⟨.bin .eql 1 true (.p 19) (.c (.int .i64 16)), (some 176), none⟩,
    ⟨.assign (.p 176), (some 175), none⟩]
@[simp] def eq57_35 := id q57_35.eq_1
def q57_36 : List AOper :=
  [⟨.bin .eql 1 true (.p 19) (.c (.int .i64 15)), (some 161), none⟩,
    ⟨.assign (.p 161), (some 160), none⟩]
@[simp] def eq57_36 := id q57_36.eq_1
def q57_37 : List AOper :=
  [⟨.bin .eql 1 true (.p 19) (.c (.int .i64 14)), (some 152), none⟩,
    ⟨.assign (.p 152), (some 151), none⟩]
@[simp] def eq57_37 := id q57_37.eq_1
def q57_38 : List AOper :=
  [⟨.bin .eql 1 true (.p 19) (.c (.int .i64 13)), (some 143), none⟩,
    ⟨.assign (.p 143), (some 142), none⟩]
@[simp] def eq57_38 := id q57_38.eq_1
def q57_39 : List AOper :=
  [⟨.bin .eql 1 true (.p 19) (.c (.int .i64 12)), (some 130), none⟩,
    ⟨.assign (.p 130), (some 129), none⟩]
@[simp] def eq57_39 := id q57_39.eq_1
def q57_40 : List AOper :=
  [⟨.bin .eql 1 true (.p 19) (.c (.int .i64 11)), (some 119), none⟩,
    ⟨.assign (.p 119), (some 118), none⟩]
@[simp] def eq57_40 := id q57_40.eq_1
def q57_41 : List AOper :=
  [⟨.bin .eql 1 true (.p 19) (.c (.int .i64 9)), (some 110), none⟩,
    ⟨.assign (.p 110), (some 109), none⟩]
@[simp] def eq57_41 := id q57_41.eq_1
def q57_42 : List AOper :=
  [⟨.bin .eql 1 true (.p 19) (.c (.int .i64 8)), (some 99), none⟩,
    ⟨.assign (.p 99), (some 98), none⟩]
@[simp] def eq57_42 := id q57_42.eq_1
def q57_43 : List AOper :=
  [⟨.bin .eql 1 true (.p 19) (.c (.int .i64 7)), (some 88), none⟩,
    ⟨.assign (.p 88), (some 87), none⟩]
@[simp] def eq57_43 := id q57_43.eq_1
def q57_44 : List AOper :=
  [⟨.bin .eql 1 true (.p 19) (.c (.int .i64 5)), (some 71), none⟩,
    ⟨.assign (.p 71), (some 70), none⟩]
@[simp] def eq57_44 := id q57_44.eq_1
def q57_45 : List AOper :=
  [⟨.bin .eql 1 true (.p 19) (.c (.int .i64 4)), (some 60), none⟩,
    ⟨.assign (.p 60), (some 59), none⟩]
@[simp] def eq57_45 := id q57_45.eq_1
def q57_46 : List AOper :=
  [⟨.bin .eql 1 true (.p 19) (.c (.int .i64 3)), (some 49), none⟩,
    ⟨.assign (.p 49), (some 48), none⟩]
@[simp] def eq57_46 := id q57_46.eq_1
def q57_47 : List AOper :=
  [⟨.bin .eql 1 true (.p 19) (.c (.int .i64 2)), (some 40), none⟩,
    ⟨.assign (.p 40), (some 39), none⟩]
@[simp] def eq57_47 := id q57_47.eq_1
def q57_48 : List AOper :=
  [⟨.bin .eql 1 true (.p 19) (.c (.int .i64 1)), (some 29), none⟩,
    ⟨.assign (.p 29), (some 28), none⟩]
@[simp] def eq57_48 := id q57_48.eq_1
def q57_49 : List AOper :=
  [⟨.move .take (.p 0), (some 17), none⟩,
    ⟨.fieldAddr 0 (.p 4), (some 18), none⟩,
    ⟨.store 1 (.p 18) (.p 17), none, none⟩]
@[simp] def eq57_49 := id q57_49.eq_1
def q57_50 : List AOper :=
  [⟨.newbox 4 [.int .i64 0, .str [], .str [], .int .i64 0, .int .u64 0, .int .u64 0, .slice .nil 0 1 [], .slice .nil 0 1 []], (some 4), none⟩,
    ⟨.assign (.c (.slice .nil 0 1 [])), (some 5), none⟩,
    ⟨.assign (.c (.bool false)), (some 6), none⟩]
@[simp] def eq57_50 := id q57_50.eq_1
def k57_0 : ACode :=
  .ops q57_0 .ret
@[simp] theorem xk57_0 : GoC fns Q s k57_0 st ↔ GoO fns Q s q57_0 .ret st := goC_ops
def k57_1 : ACode :=
  .ops q57_1 .skip
@[simp] theorem xk57_1 : GoC fns Q s k57_1 st ↔ GoO fns Q s q57_1 .skip st := goC_ops
def k57_2 : ACode :=
  .cond (.p 223) k57_1 .skip
@[simp] theorem xk57_2 : GoC fns Q s k57_2 st ↔ GB fns Q s (peek st (.p 223)) k57_1 .skip st := goC_cond
def k57_3 : ACode :=
  .seq k57_2 k57_0
@[simp] theorem xk57_3 : GoC fns Q s k57_3 st ↔ GoC fns Q (.sq k57_0 :: s) k57_2 st := goC_seq
def k57_4 : ACode :=
  .ops q57_2 k57_3
@[simp] theorem xk57_4 : GoC fns Q s k57_4 st ↔ GoO fns Q s q57_2 k57_3 st := goC_ops
def k57_5 : ACode :=
  .ops q57_3 .skip
@[simp] theorem xk57_5 : GoC fns Q s k57_5 st ↔ GoO fns Q s q57_3 .skip st := goC_ops
def k57_6 : ACode :=
  .ops q57_4 k57_5
@[simp] theorem xk57_6 : GoC fns Q s k57_6 st ↔ GoO fns Q s q57_4 k57_5 st := goC_ops
def k57_7 : ACode :=
  .ops [⟨.assign (.c (.flt .f64 0)), (some 7), none⟩] k57_6
@[simp] theorem xk57_7 : GoC fns Q s k57_7 st ↔ GoO fns Q s [⟨.assign (.c (.flt .f64 0)), (some 7), none⟩] k57_6 st := goC_ops
def k57_8 : ACode :=
  .ops q57_5 .skip
@[simp] theorem xk57_8 : GoC fns Q s k57_8 st ↔ GoO fns Q s q57_5 .skip st := goC_ops
def k57_9 : ACode :=
  .ops q57_6 .skip
@[simp] theorem xk57_9 : GoC fns Q s k57_9 st ↔ GoO fns Q s q57_6 .skip st := goC_ops
def k57_10 : ACode :=
  .ops q57_7 k57_9
@[simp] theorem xk57_10 : GoC fns Q s k57_10 st ↔ GoO fns Q s q57_7 k57_9 st := goC_ops
def k57_11 : ACode :=
  .ops [⟨.assign (.c (.slice .nil 0 1 [])), (some 8), none⟩] k57_10
@[simp] theorem xk57_11 : GoC fns Q s k57_11 st ↔ GoO fns Q s [⟨.assign (.c (.slice .nil 0 1 [])), (some 8), none⟩] k57_10 st := goC_ops
def k57_12 : ACode :=
  .ops q57_8 .skip
@[simp] theorem xk57_12 : GoC fns Q s k57_12 st ↔ GoO fns Q s q57_8 .skip st := goC_ops
def k57_13 : ACode :=
  .ops q57_9 k57_12
@[simp] theorem xk57_13 : GoC fns Q s k57_13 st ↔ GoO fns Q s q57_9 k57_12 st := goC_ops
def k57_14 : ACode :=
  .ops [⟨.assign (.c (.slice .nil 0 1 [])), (some 9), none⟩] k57_13
@[simp] theorem xk57_14 : GoC fns Q s k57_14 st ↔ GoO fns Q s [⟨.assign (.c (.slice .nil 0 1 [])), (some 9), none⟩] k57_13 st := goC_ops
def k57_15 : ACode :=
  .ops q57_10 .skip
@[simp] theorem xk57_15 : GoC fns Q s k57_15 st ↔ GoO fns Q s q57_10 .skip st := goC_ops
def k57_16 : ACode :=
  .ops q57_11 k57_15
@[simp] theorem xk57_16 : GoC fns Q s k57_16 st ↔ GoO fns Q s q57_11 k57_15 st := goC_ops
def k57_17 : ACode :=
  .ops [⟨.assign (.c (.int .u8 0)), (some 10), none⟩] k57_16
@[simp] theorem xk57_17 : GoC fns Q s k57_17 st ↔ GoO fns Q s [⟨.assign (.c (.int .u8 0)), (some 10), none⟩] k57_16 st := goC_ops
def k57_18 : ACode :=
  .ops q57_12 .skip
@[simp] theorem xk57_18 : GoC fns Q s k57_18 st ↔ GoO fns Q s q57_12 .skip st := goC_ops
def k57_19 : ACode :=
  .ops q57_13 k57_18
@[simp] theorem xk57_19 : GoC fns Q s k57_19 st ↔ GoO fns Q s q57_13 k57_18 st := goC_ops
def k57_20 : ACode :=
  .ops [⟨.newobj [.int .u8 0, .int .u8 0, .int .u8 0, .int .u8 0, .int .u8 0, .int .u8 0, .int .u8 0, .int .u8 0, .int .u8 0, .int .u8 0, .int .u8 0, .int .u8 0], (some 11), none⟩] k57_19
@[simp] theorem xk57_20 : GoC fns Q s k57_20 st ↔ GoO fns Q s [⟨.newobj [.int .u8 0, .int .u8 0, .int .u8 0, .int .u8 0, .int .u8 0, .int .u8 0, .int .u8 0, .int .u8 0, .int .u8 0, .int .u8 0, .int .u8 0, .int .u8 0], (some 11), none⟩] k57_19 st := goC_ops
def k57_21 : ACode :=
  .ops q57_14 .skip
@[simp] theorem xk57_21 : GoC fns Q s k57_21 st ↔ GoO fns Q s q57_14 .skip st := goC_ops
def k57_22 : ACode :=
  .ops q57_15 k57_21
@[simp] theorem xk57_22 : GoC fns Q s k57_22 st ↔ GoO fns Q s q57_15 k57_21 st := goC_ops
def k57_23 : ACode :=
  .ops [⟨.assign (.c (.bool false)), (some 12), none⟩] k57_22
@[simp] theorem xk57_23 : GoC fns Q s k57_23 st ↔ GoO fns Q s [⟨.assign (.c (.bool false)), (some 12), none⟩] k57_22 st := goC_ops
def k57_24 : ACode :=
  .ops q57_16 .skip
@[simp] theorem xk57_24 : GoC fns Q s k57_24 st ↔ GoO fns Q s q57_16 .skip st := goC_ops
def k57_25 : ACode :=
  .ops q57_17 .skip
@[simp] theorem xk57_25 : GoC fns Q s k57_25 st ↔ GoO fns Q s q57_17 .skip st := goC_ops
def k57_26 : ACode :=
  .ops q57_18 .skip
@[simp] theorem xk57_26 : GoC fns Q s k57_26 st ↔ GoO fns Q s q57_18 .skip st := goC_ops
def k57_27 : ACode :=
  .ops q57_19 k57_26
@[simp] theorem xk57_27 : GoC fns Q s k57_27 st ↔ GoO fns Q s q57_19 k57_26 st := goC_ops
def k57_28 : ACode :=
  .ops [⟨.newobj [.int .u8 0, .int .u8 0, .int .u8 0, .int .u8 0, .int .u8 0, .int .u8 0, .int .u8 0, .int .u8 0, .int .u8 0, .int .u8 0, .int .u8 0, .int .u8 0], (some 13), none⟩] k57_27
@[simp] theorem xk57_28 : GoC fns Q s k57_28 st ↔ GoO fns Q s [⟨.newobj [.int .u8 0, .int .u8 0, .int .u8 0, .int .u8 0, .int .u8 0, .int .u8 0, .int .u8 0, .int .u8 0, .int .u8 0, .int .u8 0, .int .u8 0, .int .u8 0], (some 13), none⟩] k57_27 st := goC_ops
def k57_29 : ACode :=
  .ops q57_20 .skip
@[simp] theorem xk57_29 : GoC fns Q s k57_29 st ↔ GoO fns Q s q57_20 .skip st := goC_ops
def k57_30 : ACode :=
  .ops q57_21 .skip
@[simp] theorem xk57_30 : GoC fns Q s k57_30 st ↔ GoO fns Q s q57_21 .skip st := goC_ops
def k57_31 : ACode :=
  .ops q57_22 .skip
@[simp] theorem xk57_31 : GoC fns Q s k57_31 st ↔ GoO fns Q s q57_22 .skip st := goC_ops
def k57_32 : ACode :=
  .ops q57_23 k57_31
@[simp] theorem xk57_32 : GoC fns Q s k57_32 st ↔ GoO fns Q s q57_23 k57_31 st := goC_ops
def k57_33 : ACode :=
  .ops q57_24 .skip
@[simp] theorem xk57_33 : GoC fns Q s k57_33 st ↔ GoO fns Q s q57_24 .skip st := goC_ops
def k57_34 : ACode :=
  .ops q57_25 k57_33
@[simp] theorem xk57_34 : GoC fns Q s k57_34 st ↔ GoO fns Q s q57_25 k57_33 st := goC_ops
def k57_35 : ACode :=
  .ops [⟨.assign (.c (.int .i32 0)), (some 14), none⟩] k57_34
@[simp] theorem xk57_35 : GoC fns Q s k57_35 st ↔ GoO fns Q s [⟨.assign (.c (.int .i32 0)), (some 14), none⟩] k57_34 st := goC_ops
def k57_36 : ACode :=
  .ops q57_26 .skip
@[simp] theorem xk57_36 : GoC fns Q s k57_36 st ↔ GoO fns Q s q57_26 .skip st := goC_ops
def k57_37 : ACode :=
  .ops q57_27 k57_36
@[simp] theorem xk57_37 : GoC fns Q s k57_37 st ↔ GoO fns Q s q57_27 k57_36 st := goC_ops
def k57_38 : ACode :=
  .ops q57_28 k57_37
@[simp] theorem xk57_38 : GoC fns Q s k57_38 st ↔ GoO fns Q s q57_28 k57_37 st := goC_ops
def k57_39 : ACode :=
  .ops q57_29 .skip
@[simp] theorem xk57_39 : GoC fns Q s k57_39 st ↔ GoO fns Q s q57_29 .skip st := goC_ops
def k57_40 : ACode :=
  .ops q57_30 .skip
@[simp] theorem xk57_40 : GoC fns Q s k57_40 st ↔ GoO fns Q s q57_30 .skip st := goC_ops
def k57_41 : ACode :=
  .ops q57_31 .skip
@[simp] theorem xk57_41 : GoC fns Q s k57_41 st ↔ GoO fns Q s q57_31 .skip st := goC_ops
def k57_42 : ACode :=
  .cond (.p 211) k57_40 k57_41
@[simp] theorem xk57_42 : GoC fns Q s k57_42 st ↔ GB fns Q s (peek st (.p 211)) k57_40 k57_41 st := goC_cond
def k57_43 : ACode :=
  .ops q57_32 k57_42
@[simp] theorem xk57_43 : GoC fns Q s k57_43 st ↔ GoO fns Q s q57_32 k57_42 st := goC_ops
def k57_44 : ACode :=
  .cond (.p 202) k57_39 k57_43
@[simp] theorem xk57_44 : GoC fns Q s k57_44 st ↔ GB fns Q s (peek st (.p 202)) k57_39 k57_43 st := goC_cond
def k57_45 : ACode :=
  .ops q57_33 k57_44
@[simp] theorem xk57_45 : GoC fns Q s k57_45 st ↔ GoO fns Q s q57_33 k57_44 st := goC_ops
def k57_46 : ACode :=
  .cond (.p 186) k57_38 k57_45
@[simp] theorem xk57_46 : GoC fns Q s k57_46 st ↔ GB fns Q s (peek st (.p 186)) k57_38 k57_45 st := goC_cond
def k57_47 : ACode :=
  .ops q57_34 k57_46
@[simp] theorem xk57_47 : GoC fns Q s k57_47 st ↔ GoO fns Q s q57_34 k57_46 st := goC_ops
def k57_48 : ACode :=
  .cond (.p 175) k57_35 k57_47
@[simp] theorem xk57_48 : GoC fns Q s k57_48 st ↔ GB fns Q s (peek st (.p 175)) k57_35 k57_47 st := goC_cond
def k57_49 : ACode :=
  .ops q57_35 k57_48
@[simp] theorem xk57_49 : GoC fns Q s k57_49 st ↔ GoO fns Q s q57_35 k57_48 st := goC_ops
def k57_50 : ACode :=
  .cond (.p 160) k57_32 k57_49
@[simp] theorem xk57_50 : GoC fns Q s k57_50 st ↔ GB fns Q s (peek st (.p 160)) k57_32 k57_49 st := goC_cond
def k57_51 : ACode :=
  .ops q57_36 k57_50
@[simp] theorem xk57_51 : GoC fns Q s k57_51 st ↔ GoO fns Q s q57_36 k57_50 st := goC_ops
def k57_52 : ACode :=
  .cond (.p 151) k57_30 k57_51
@[simp] theorem xk57_52 : GoC fns Q s k57_52 st ↔ GB fns Q s (peek st (.p 151)) k57_30 k57_51 st := goC_cond
def k57_53 : ACode :=
  .ops q57_37 k57_52
@[simp] theorem xk57_53 : GoC fns Q s k57_53 st ↔ GoO fns Q s q57_37 k57_52 st := goC_ops
def k57_54 : ACode :=
  .cond (.p 142) k57_29 k57_53
@[simp] theorem xk57_54 : GoC fns Q s k57_54 st ↔ GB fns Q s (peek st (.p 142)) k57_29 k57_53 st := goC_cond
def k57_55 : ACode :=
  .ops q57_38 k57_54
@[simp] theorem xk57_55 : GoC fns Q s k57_55 st ↔ GoO fns Q s q57_38 k57_54 st := goC_ops
def k57_56 : ACode :=
  .cond (.p 129) k57_28 k57_55
@[simp] theorem xk57_56 : GoC fns Q s k57_56 st ↔ GB fns Q s (peek st (.p 129)) k57_28 k57_55 st := goC_cond
def k57_57 : ACode :=
  .ops q57_39 k57_56
@[simp] theorem xk57_57 : GoC fns Q s k57_57 st ↔ GoO fns Q s q57_39 k57_56 st := goC_ops
def k57_58 : ACode :=
  .cond (.p 118) k57_25 k57_57
@[simp] theorem xk57_58 : GoC fns Q s k57_58 st ↔ GB fns Q s (peek st (.p 118)) k57_25 k57_57 st := goC_cond
def k57_59 : ACode :=
  .ops q57_40 k57_58
@[simp] theorem xk57_59 : GoC fns Q s k57_59 st ↔ GoO fns Q s q57_40 k57_58 st := goC_ops
def k57_60 : ACode :=
  .cond (.p 109) k57_24 k57_59
@[simp] theorem xk57_60 : GoC fns Q s k57_60 st ↔ GB fns Q s (peek st (.p 109)) k57_24 k57_59 st := goC_cond
def k57_61 : ACode :=
  .ops q57_41 k57_60
@[simp] theorem xk57_61 : GoC fns Q s k57_61 st ↔ GoO fns Q s q57_41 k57_60 st := goC_ops
def k57_62 : ACode :=
  .cond (.p 98) k57_23 k57_61
@[simp] theorem xk57_62 : GoC fns Q s k57_62 st ↔ GB fns Q s (peek st (.p 98)) k57_23 k57_61 st := goC_cond
def k57_63 : ACode :=
  .ops q57_42 k57_62
@[simp] theorem xk57_63 : GoC fns Q s k57_63 st ↔ GoO fns Q s q57_42 k57_62 st := goC_ops
def k57_64 : ACode :=
  .cond (.p 87) k57_20 k57_63
@[simp] theorem xk57_64 : GoC fns Q s k57_64 st ↔ GB fns Q s (peek st (.p 87)) k57_20 k57_63 st := goC_cond
def k57_65 : ACode :=
  .ops q57_43 k57_64
@[simp] theorem xk57_65 : GoC fns Q s k57_65 st ↔ GoO fns Q s q57_43 k57_64 st := goC_ops
def k57_66 : ACode :=
  .cond (.p 70) k57_17 k57_65
@[simp] theorem xk57_66 : GoC fns Q s k57_66 st ↔ GB fns Q s (peek st (.p 70)) k57_17 k57_65 st := goC_cond
def k57_67 : ACode :=
  .ops q57_44 k57_66
@[simp] theorem xk57_67 : GoC fns Q s k57_67 st ↔ GoO fns Q s q57_44 k57_66 st := goC_ops
def k57_68 : ACode :=
  .cond (.p 59) k57_14 k57_67
@[simp] theorem xk57_68 : GoC fns Q s k57_68 st ↔ GB fns Q s (peek st (.p 59)) k57_14 k57_67 st := goC_cond
def k57_69 : ACode :=
  .ops q57_45 k57_68
@[simp] theorem xk57_69 : GoC fns Q s k57_69 st ↔ GoO fns Q s q57_45 k57_68 st := goC_ops
def k57_70 : ACode :=
  .cond (.p 48) k57_11 k57_69
@[simp] theorem xk57_70 : GoC fns Q s k57_70 st ↔ GB fns Q s (peek st (.p 48)) k57_11 k57_69 st := goC_cond
def k57_71 : ACode :=
  .ops q57_46 k57_70
@[simp] theorem xk57_71 : GoC fns Q s k57_71 st ↔ GoO fns Q s q57_46 k57_70 st := goC_ops
def k57_72 : ACode :=
  .cond (.p 39) k57_8 k57_71
@[simp] theorem xk57_72 : GoC fns Q s k57_72 st ↔ GB fns Q s (peek st (.p 39)) k57_8 k57_71 st := goC_cond
def k57_73 : ACode :=
  .ops q57_47 k57_72
@[simp] theorem xk57_73 : GoC fns Q s k57_73 st ↔ GoO fns Q s q57_47 k57_72 st := goC_ops
def k57_74 : ACode :=
  .cond (.p 28) k57_7 k57_73
@[simp] theorem xk57_74 : GoC fns Q s k57_74 st ↔ GB fns Q s (peek st (.p 28)) k57_7 k57_73 st := goC_cond
def k57_75 : ACode :=
  .ops q57_48 k57_74
@[simp] theorem xk57_75 : GoC fns Q s k57_75 st ↔ GoO fns Q s q57_48 k57_74 st := goC_ops
def k57_76 : ACode :=
  .block 0 k57_75
@[simp] theorem xk57_76 : GoC fns Q s k57_76 st ↔ GoC fns Q (.bl 0 :: s) k57_75 st := goC_block
def k57_77 : ACode :=
  .seq k57_76 k57_4
@[simp] theorem xk57_77 : GoC fns Q s k57_77 st ↔ GoC fns Q (.sq k57_4 :: s) k57_76 st := goC_seq
def k57_78 : ACode :=
  .ops [⟨.move .head (.p 0), (some 19), none⟩] k57_77
@[simp] theorem xk57_78 : GoC fns Q s k57_78 st ↔ GoO fns Q s [⟨.move .head (.p 0), (some 19), none⟩] k57_77 st := goC_ops
def k57_79 : ACode :=
  .ops q57_49 k57_78
@[simp] theorem xk57_79 : GoC fns Q s k57_79 st ↔ GoO fns Q s q57_49 k57_78 st := goC_ops
def k57_80 : ACode :=
  .ops q57_50 k57_79
@[simp] theorem xk57_80 : GoC fns Q s k57_80 st ↔ GoO fns Q s q57_50 k57_79 st := goC_ops
def af57 : AFunc := ⟨229, k57_80, [.cell 4 true 8, .tmp 5, .tmp 6], fun _ _ => none⟩

theorem ok57 : ∃ hs, pFunc Tryz.prog sg hs Tryz.f57 = some af57 := ⟨fun i => if i == 11 then 1 else if i == 13 then 1 else 0, by kernel_rfl⟩
def q258_0 : List AOper :=
  [⟨.move .look (.t 0), (some 15), none⟩,
    ⟨.move .look (.p 4), (some 16), none⟩,
    ⟨.bin .add 1 true (.p 16) (.c (.int .i64 1)), (some 17), none⟩,
    ⟨.sliceSl 1 (.t 15) (some (.c (.int .i64 1))) (some (.p 17)), (some 18), none⟩,
    ⟨.assign (.t 18), (some 2), none⟩,
    ⟨.assign (.c (.nilI)), (some 3), none⟩]
@[simp] def eq258_0 := id q258_0.eq_1
def q258_1 : List AOper :=
  [⟨.mkIface 241 (.c (.str [101, 108, 101, 109, 101, 110, 116, 32, 105, 115, 32, 109, 105, 115, 115, 105, 110, 103, 32, 107, 101, 121])), (some 14), none⟩,
    ⟨.assign (.c (.slice .nil 0 1 [])), (some 2), none⟩,
    ⟨.assign (.p 14), (some 3), none⟩]
@[simp] def eq258_1 := id q258_1.eq_1
def q258_2 : List AOper :=
  [⟨.move .head (.p 4), (some 12), none⟩,
    ⟨.bin .eql 1 true (.p 12) (.c (.int .i64 (-1))), (some 13), none⟩]
@[simp] def eq258_2 := id q258_2.eq_1
def q258_3 : List AOper :=
  [⟨.move .look (.t 0), (some 9), none⟩,
    ⟨.sliceSl 1 (.t 9) (some (.c (.int .i64 1))) none, (some 10), none⟩,
    ⟨.call 220 [(.t 10, false), (.c (.int .u8 0), false)], (some 11), none⟩,
    ⟨.assign (.p 11), (some 4), none⟩]
@[simp] def eq258_3 := id q258_3.eq_1
def q258_4 : List AOper :=
  [⟨.mkIface 241 (.c (.str [101, 108, 101, 109, 101, 110, 116, 32, 105, 115, 32, 109, 105, 115, 115, 105, 110, 103, 32, 116, 121, 112, 101])), (some 8), none⟩,
    ⟨.assign (.c (.slice .nil 0 1 [])), (some 2), none⟩,
    ⟨.assign (.p 8), (some 3), none⟩]
@[simp] def eq258_4 := id q258_4.eq_1
def q258_5 : List AOper :=
  [⟨.move .head (.t 0), (some 5), none⟩,
    ⟨.len false (.p 5), (some 6), none⟩,
    ⟨.bin .eql 1 true (.p 6) (.c (.int .i64 0)), (some 7), none⟩]
@[simp] def eq258_5 := id q258_5.eq_1
def q258_6 : List AOper :=
  [⟨.assign (.c (.slice .nil 0 1 [])), (some 2), none⟩,
    ⟨.assign (.c (.nilI)), (some 3), none⟩]
@[simp] def eq258_6 := id q258_6.eq_1
def k258_0 : ACode :=
  .ops q258_0 .ret
@[simp] theorem xk258_0 : GoC fns Q s k258_0 st ↔ GoO fns Q s q258_0 .ret st := goC_ops
def k258_1 : ACode :=
  .ops q258_1 .ret
@[simp] theorem xk258_1 : GoC fns Q s k258_1 st ↔ GoO fns Q s q258_1 .ret st := goC_ops
def k258_2 : ACode :=
  .cond (.p 13) k258_1 .skip
@[simp] theorem xk258_2 : GoC fns Q s k258_2 st ↔ GB fns Q s (peek st (.p 13)) k258_1 .skip st := goC_cond
def k258_3 : ACode :=
  .seq k258_2 k258_0
@[simp] theorem xk258_3 : GoC fns Q s k258_3 st ↔ GoC fns Q (.sq k258_0 :: s) k258_2 st := goC_seq
def k258_4 : ACode :=
  .ops q258_2 k258_3
@[simp] theorem xk258_4 : GoC fns Q s k258_4 st ↔ GoO fns Q s q258_2 k258_3 st := goC_ops
def k258_5 : ACode :=
  .ops q258_3 k258_4
@[simp] theorem xk258_5 : GoC fns Q s k258_5 st ↔ GoO fns Q s q258_3 k258_4 st := goC_ops
def k258_6 : ACode :=
  .ops q258_4 .ret
@[simp] theorem xk258_6 : GoC fns Q s k258_6 st ↔ GoO fns Q s q258_4 .ret st := goC_ops
def k258_7 : ACode :=
  .cond (.p 7) k258_6 .skip
@[simp] theorem xk258_7 : GoC fns Q s k258_7 st ↔ GB fns Q s (peek st (.p 7)) k258_6 .skip st := goC_cond
def k258_8 : ACode :=
  .seq k258_7 k258_5
@[simp] theorem xk258_8 : GoC fns Q s k258_8 st ↔ GoC fns Q (.sq k258_5 :: s) k258_7 st := goC_seq
def k258_9 : ACode :=
  .ops q258_5 k258_8
@[simp] theorem xk258_9 : GoC fns Q s k258_9 st ↔ GoO fns Q s q258_5 k258_8 st := goC_ops
def k258_10 : ACode :=
  .ops q258_6 k258_9
@[simp] theorem xk258_10 : GoC fns Q s k258_10 st ↔ GoO fns Q s q258_6 k258_9 st := goC_ops
def af258 : AFunc := ⟨19, k258_10, [.tmp 2, .tmp 3], fun _ _ => none⟩

theorem ok258 : ∃ hs, pFunc Tryz.prog sg hs Tryz.f258 = some af258 := ⟨fun i => 0, by kernel_rfl⟩
def q214_0 : List AOper :=
  [⟨.move .take (.t 3), (some 10), none⟩,
    ⟨.assign (.t 10), (some 2), none⟩]
@[simp] def eq214_0 := id q214_0.eq_1
def q214_1 : List AOper :=
  [⟨.move .look (.t 0), (some 6), none⟩,
    ⟨.call 258 [(.t 6, false)], (some 7), none⟩,
    ⟨.move .look (.t 7), (some 5), none⟩,
    ⟨.extract 5 0, (some 8), none⟩,
    ⟨.extract 5 1, (some 9), none⟩,
    ⟨.assign (.t 8), (some 3), none⟩,
    ⟨.assign (.p 9), (some 4), none⟩]
@[simp] def eq214_1 := id q214_1.eq_1
def k214_0 : ACode :=
  .ops q214_0 .ret
@[simp] theorem xk214_0 : GoC fns Q s k214_0 st ↔ GoO fns Q s q214_0 .ret st := goC_ops
def k214_1 : ACode :=
  .ops q214_1 k214_0
@[simp] theorem xk214_1 : GoC fns Q s k214_1 st ↔ GoO fns Q s q214_1 k214_0 st := goC_ops
def k214_2 : ACode :=
  .ops [⟨.assign (.c (.slice .nil 0 1 [])), (some 2), none⟩] k214_1
@[simp] theorem xk214_2 : GoC fns Q s k214_2 st ↔ GoO fns Q s [⟨.assign (.c (.slice .nil 0 1 [])), (some 2), none⟩] k214_1 st := goC_ops
def af214 : AFunc := ⟨11, k214_2, [.tmp 2], fun _ _ => none⟩

theorem ok214 : ∃ hs, pFunc Tryz.prog sg hs Tryz.f214 = some af214 := ⟨fun i => 0, by kernel_rfl⟩
def q215_0 : List AOper :=
  [⟨.move .take (.t 3), (some 28), none⟩,
    ⟨.assign (.t 28), (some 2), none⟩]
@[simp] def eq215_0 := id q215_0.eq_1
def q215_1 : List AOper :=
  [⟨.fieldAddr 1 (.p 1), (some 22), none⟩,
    ⟨.load .look false 1 (.p 22), (some 23), none⟩,
    ⟨.fieldAddr 1 (.p 1), (some 24), none⟩,
    ⟨.load .look false 1 (.p 24), (some 25), none⟩,
    ⟨.call 166 [(.t 23, false), (.t 25, false)], (some 26), none⟩,
    ⟨.mkIface 239 (.p 26), (some 27), none⟩,
    ⟨.dead, none, none⟩]
@[simp] def eq215_1 := id q215_1.eq_1
def q215_2 : List AOper :=
  [⟨.move .look (.p 5), (some 20), none⟩,
    ⟨.un .not (.p 20), (some 21), none⟩]
@[simp] def eq215_2 := id q215_2.eq_1
def q215_3 : List AOper :=
  [⟨.fieldAddr 1 (.p 1), (some 14), none⟩,
    ⟨.load .look false 1 (.p 14), (some 15), none⟩,
    ⟨.call 146 [(.t 15, false)], (some 16), none⟩,
    ⟨.move .look (.t 16), (some 13), none⟩,
    ⟨.extract 13 0, (some 17), none⟩,
    ⟨.extract 13 1, (some 18), none⟩,
    ⟨.extract 13 2, (some 19), none⟩,
    ⟨.assign (.t 17), (some 3), none⟩,
    ⟨.assign (.t 18), (some 4), none⟩,
    ⟨.assign (.p 19), (some 5), none⟩]
@[simp] def eq215_3 := id q215_3.eq_1
def q215_4 : List AOper :=
  [⟨.fieldAddr 0 (.p 1), (some 9), none⟩,
    ⟨.load .look false 1 (.p 9), (some 10), none⟩,
    ⟨.build [.str [], .int .u8 0] [(0, 1, .c (.str [98, 115, 111, 110, 99, 111, 114, 101, 46, 86, 97, 108, 117, 101, 46, 68, 111, 99, 117, 109, 101, 110, 116])), (1, 1, .p 10)], (some 11), none⟩,
    ⟨.mkIface 330 (.p 11), (some 12), none⟩,
    ⟨.dead, none, none⟩]
@[simp] def eq215_4 := id q215_4.eq_1
def q215_5 : List AOper :=
  [⟨.fieldAddr 0 (.p 1), (some 6), none⟩,
    ⟨.load .head false 1 (.p 6), (some 7), none⟩,
    ⟨.bin .neq 1 true (.p 7) (.c (.int .u8 3)), (some 8), none⟩]
@[simp] def eq215_5 := id q215_5.eq_1
def q215_6 : List AOper :=
  [⟨.box 1 (.p 0), (some 1), none⟩,
    ⟨.assign (.c (.slice .nil 0 1 [])), (some 2), none⟩]
@[simp] def eq215_6 := id q215_6.eq_1
def k215_0 : ACode :=
  .ops q215_0 .ret
@[simp] theorem xk215_0 : GoC fns Q s k215_0 st ↔ GoO fns Q s q215_0 .ret st := goC_ops
def k215_1 : ACode :=
  .ops q215_1 .skip
@[simp] theorem xk215_1 : GoC fns Q s k215_1 st ↔ GoO fns Q s q215_1 .skip st := goC_ops
def k215_2 : ACode :=
  .cond (.p 21) k215_1 .skip
@[simp] theorem xk215_2 : GoC fns Q s k215_2 st ↔ GB fns Q s (peek st (.p 21)) k215_1 .skip st := goC_cond
def k215_3 : ACode :=
  .seq k215_2 k215_0
@[simp] theorem xk215_3 : GoC fns Q s k215_3 st ↔ GoC fns Q (.sq k215_0 :: s) k215_2 st := goC_seq
def k215_4 : ACode :=
  .ops q215_2 k215_3
@[simp] theorem xk215_4 : GoC fns Q s k215_4 st ↔ GoO fns Q s q215_2 k215_3 st := goC_ops
def k215_5 : ACode :=
  .ops q215_3 k215_4
@[simp] theorem xk215_5 : GoC fns Q s k215_5 st ↔ GoO fns Q s q215_3 k215_4 st := goC_ops
def k215_6 : ACode :=
  .ops q215_4 .skip
@[simp] theorem xk215_6 : GoC fns Q s k215_6 st ↔ GoO fns Q s q215_4 .skip st := goC_ops
def k215_7 : ACode :=
  .cond (.p 8) k215_6 .skip
@[simp] theorem xk215_7 : GoC fns Q s k215_7 st ↔ GB fns Q s (peek st (.p 8)) k215_6 .skip st := goC_cond
def k215_8 : ACode :=
  .seq k215_7 k215_5
@[simp] theorem xk215_8 : GoC fns Q s k215_8 st ↔ GoC fns Q (.sq k215_5 :: s) k215_7 st := goC_seq
def k215_9 : ACode :=
  .ops q215_5 k215_8
@[simp] theorem xk215_9 : GoC fns Q s k215_9 st ↔ GoO fns Q s q215_5 k215_8 st := goC_ops
def k215_10 : ACode :=
  .ops q215_6 k215_9
@[simp] theorem xk215_10 : GoC fns Q s k215_10 st ↔ GoO fns Q s q215_6 k215_9 st := goC_ops
def af215 : AFunc := ⟨29, k215_10, [.tmp 2], fun _ _ => none⟩

theorem ok215 : ∃ hs, pFunc Tryz.prog sg hs Tryz.f215 = some af215 := ⟨fun i => 0, by kernel_rfl⟩
def q216_0 : List AOper :=
  [⟨.move .take (.t 3), (some 28), none⟩,
    ⟨.assign (.t 28), (some 2), none⟩]
@[simp] def eq216_0 := id q216_0.eq_1
def q216_1 : List AOper :=
  [⟨.fieldAddr 1 (.p 1), (some 22), none⟩,
    ⟨.load .look false 1 (.p 22), (some 23), none⟩,
    ⟨.fieldAddr 1 (.p 1), (some 24), none⟩,
    ⟨.load .look false 1 (.p 24), (some 25), none⟩,
    ⟨.call 166 [(.t 23, false), (.t 25, false)], (some 26), none⟩,
    ⟨.mkIface 239 (.p 26), (some 27), none⟩,
    ⟨.dead, none, none⟩]
@[simp] def eq216_1 := id q216_1.eq_1
def q216_2 : List AOper :=
  [⟨.move .look (.p 5), (some 20), none⟩,
    ⟨.un .not (.p 20), (some 21), none⟩]
@[simp] def eq216_2 := id q216_2.eq_1
def q216_3 : List AOper :=
  [⟨.fieldAddr 1 (.p 1), (some 14), none⟩,
    ⟨.load .look false 1 (.p 14), (some 15), none⟩,
    ⟨.call 147 [(.t 15, false)], (some 16), none⟩,
    ⟨.move .look (.t 16), (some 13), none⟩,
    ⟨.extract 13 0, (some 17), none⟩,
    ⟨.extract 13 1, (some 18), none⟩,
    ⟨.extract 13 2, (some 19), none⟩,
    ⟨.assign (.t 17), (some 3), none⟩,
    ⟨.assign (.t 18), (some 4), none⟩,
    ⟨.assign (.p 19), (some 5), none⟩]
@[simp] def eq216_3 := id q216_3.eq_1
def q216_4 : List AOper :=
  [⟨.fieldAddr 0 (.p 1), (some 9), none⟩,
    ⟨.load .look false 1 (.p 9), (some 10), none⟩,
    ⟨.build [.str [], .int .u8 0] [(0, 1, .c (.str [98, 115, 111, 110, 99, 111, 114, 101, 46, 86, 97, 108, 117, 101, 46, 65, 114, 114, 97, 121])), (1, 1, .p 10)], (some 11), none⟩,
    ⟨.mkIface 330 (.p 11), (some 12), none⟩,
    ⟨.dead, none, none⟩]
@[simp] def eq216_4 := id q216_4.eq_1
def q216_5 : List AOper :=
  [⟨.fieldAddr 0 (.p 1), (some 6), none⟩,
    ⟨.load .head false 1 (.p 6), (some 7), none⟩,
    ⟨.bin .neq 1 true (.p 7) (.c (.int .u8 4)), (some 8), none⟩]
@[simp] def eq216_5 := id q216_5.eq_1
def q216_6 : List AOper :=
  [⟨.box 1 (.p 0), (some 1), none⟩,
    ⟨.assign (.c (.slice .nil 0 1 [])), (some 2), none⟩]
@[simp] def eq216_6 := id q216_6.eq_1
def k216_0 : ACode :=
  .ops q216_0 .ret
@[simp] theorem xk216_0 : GoC fns Q s k216_0 st ↔ GoO fns Q s q216_0 .ret st := goC_ops
def k216_1 : ACode :=
  .ops q216_1 .skip
@[simp] theorem xk216_1 : GoC fns Q s k216_1 st ↔ GoO fns Q s q216_1 .skip st := goC_ops
def k216_2 : ACode :=
  .cond (.p 21) k216_1 .skip
@[simp] theorem xk216_2 : GoC fns Q s k216_2 st ↔ GB fns Q s (peek st (.p 21)) k216_1 .skip st := goC_cond
def k216_3 : ACode :=
  .seq k216_2 k216_0
@[simp] theorem xk216_3 : GoC fns Q s k216_3 st ↔ GoC fns Q (.sq k216_0 :: s) k216_2 st := goC_seq
def k216_4 : ACode :=
  .ops q216_2 k216_3
@[simp] theorem xk216_4 : GoC fns Q s k216_4 st ↔ GoO fns Q s q216_2 k216_3 st := goC_ops
def k216_5 : ACode :=
  .ops q216_3 k216_4
@[simp] theorem xk216_5 : GoC fns Q s k216_5 st ↔ GoO fns Q s q216_3 k216_4 st := goC_ops
def k216_6 : ACode :=
  .ops q216_4 .skip
@[simp] theorem xk216_6 : GoC fns Q s k216_6 st ↔ GoO fns Q s q216_4 .skip st := goC_ops
def k216_7 : ACode :=
  .cond (.p 8) k216_6 .skip
@[simp] theorem xk216_7 : GoC fns Q s k216_7 st ↔ GB fns Q s (peek st (.p 8)) k216_6 .skip st := goC_cond
def k216_8 : ACode :=
  .seq k216_7 k216_5
@[simp] theorem xk216_8 : GoC fns Q s k216_8 st ↔ GoC fns Q (.sq k216_5 :: s) k216_7 st := goC_seq
def k216_9 : ACode :=
  .ops q216_5 k216_8
@[simp] theorem xk216_9 : GoC fns Q s k216_9 st ↔ GoO fns Q s q216_5 k216_8 st := goC_ops
def k216_10 : ACode :=
  .ops q216_6 k216_9
@[simp] theorem xk216_10 : GoC fns Q s k216_10 st ↔ GoO fns Q s q216_6 k216_9 st := goC_ops
def af216 : AFunc := ⟨29, k216_10, [.tmp 2], fun _ _ => none⟩

theorem ok216 : ∃ hs, pFunc Tryz.prog sg hs Tryz.f216 = some af216 := ⟨fun i => 0, by kernel_rfl⟩
def q259_0 : List AOper :=
  [⟨.move .look (.t 4), (some 11), none⟩,
    ⟨.convBS (.t 11), (some 12), none⟩,
    ⟨.move .take (.p 5), (some 13), none⟩,
    ⟨.assign (.p 12), (some 2), none⟩,
    ⟨.assign (.p 13), (some 3), none⟩]
@[simp] def eq259_0 := id q259_0.eq_1
def q259_1 : List AOper :=
  [⟨.move .look (.t 0), (some 7), none⟩,
    ⟨.call 258 [(.t 7, false)], (some 8), none⟩,
    ⟨.move .look (.t 8), (some 6), none⟩,
    ⟨.extract 6 0, (some 9), none⟩,
    ⟨.extract 6 1, (some 10), none⟩,
    ⟨.assign (.t 9), (some 4), none⟩,
    ⟨.assign (.p 10), (some 5), none⟩]
@[simp] def eq259_1 := id q259_1.eq_1
def q259_2 : List AOper :=
  [⟨.assign (.c (.str [])), (some 2), none⟩,
    ⟨.assign (.c (.nilI)), (some 3), none⟩]
@[simp] def eq259_2 := id q259_2.eq_1
def k259_0 : ACode :=
  .ops q259_0 .ret
@[simp] theorem xk259_0 : GoC fns Q s k259_0 st ↔ GoO fns Q s q259_0 .ret st := goC_ops
def k259_1 : ACode :=
  .ops q259_1 k259_0
@[simp] theorem xk259_1 : GoC fns Q s k259_1 st ↔ GoO fns Q s q259_1 k259_0 st := goC_ops
def k259_2 : ACode :=
  .ops q259_2 k259_1
@[simp] theorem xk259_2 : GoC fns Q s k259_2 st ↔ GoO fns Q s q259_2 k259_1 st := goC_ops
def af259 : AFunc := ⟨14, k259_2, [.tmp 2, .tmp 3], fun _ _ => none⟩

theorem ok259 : ∃ hs, pFunc Tryz.prog sg hs Tryz.f259 = some af259 := ⟨fun i => 0, by kernel_rfl⟩
def q217_0 : List AOper :=
  [⟨.move .take (.p 3), (some 10), none⟩,
    ⟨.assign (.p 10), (some 2), none⟩]
@[simp] def eq217_0 := id q217_0.eq_1
def q217_1 : List AOper :=
  [⟨.move .look (.t 0), (some 6), none⟩,
    ⟨.call 259 [(.t 6, false)], (some 7), none⟩,
    ⟨.move .look (.t 7), (some 5), none⟩,
    ⟨.extract 5 0, (some 8), none⟩,
    ⟨.extract 5 1, (some 9), none⟩,
    ⟨.assign (.p 8), (some 3), none⟩,
    ⟨.assign (.p 9), (some 4), none⟩]
@[simp] def eq217_1 := id q217_1.eq_1
def k217_0 : ACode :=
  .ops q217_0 .ret
@[simp] theorem xk217_0 : GoC fns Q s k217_0 st ↔ GoO fns Q s q217_0 .ret st := goC_ops
def k217_1 : ACode :=
  .ops q217_1 k217_0
@[simp] theorem xk217_1 : GoC fns Q s k217_1 st ↔ GoO fns Q s q217_1 k217_0 st := goC_ops
def k217_2 : ACode :=
  .ops [⟨.assign (.c (.str [])), (some 2), none⟩] k217_1
@[simp] theorem xk217_2 : GoC fns Q s k217_2 st ↔ GoO fns Q s [⟨.assign (.c (.str [])), (some 2), none⟩] k217_1 st := goC_ops
def af217 : AFunc := ⟨11, k217_2, [.tmp 2], fun _ _ => none⟩

theorem ok217 : ∃ hs, pFunc Tryz.prog sg hs Tryz.f217 = some af217 := ⟨fun i => 0, by kernel_rfl⟩
def q161_0 : List AOper :=
  [⟨.load .take false 1 (.c (.gl 1)), (some 112), none⟩,
    ⟨.build [.int .u8 0, .slice .nil 0 1 []] [], (some 111), none⟩,
    ⟨.store 2 (.p 4) (.p 111), none, none⟩,
    ⟨.assign (.p 112), (some 5), none⟩]
@[simp] def eq161_0 := id q161_0.eq_1
def q161_1 : List AOper :=
  [⟨.move .look (.t 9), (some 107), none⟩,
    ⟨.call 218 [(.t 107, false)], (some 108), none⟩,
    ⟨.extract 108 0, (some 109), none⟩,
    ⟨.extract 108 1, (some 110), none⟩,
    ⟨.store 2 (.p 4) (.p 109), none, none⟩,
    ⟨.assign (.p 110), (some 5), none⟩]
@[simp] def eq161_1 := id q161_1.eq_1
def q161_2 : List AOper :=
  [⟨.load .take true 2 (.p 11), (some 90), none⟩,
    ⟨.store 2 (.p 4) (.p 90), none, none⟩,
    ⟨.assign (.c (.nilI)), (some 5), none⟩]
@[simp] def eq161_2 := id q161_2.eq_1
def q161_3 : List AOper :=
  [⟨.build [.int .u8 0, .slice .nil 0 1 []] [], (some 88), none⟩,
    ⟨.move .take (.p 12), (some 89), none⟩,
    ⟨.store 2 (.p 4) (.p 88), none, none⟩,
    ⟨.assign (.p 89), (some 5), none⟩]
@[simp] def eq161_3 := id q161_3.eq_1
def q161_4 : List AOper :=
  [⟨.move .head (.p 12), (some 86), none⟩,
    ⟨.bin .neq 5 true (.p 86) (.c (.nilI)), (some 87), none⟩]
@[simp] def eq161_4 := id q161_4.eq_1
def q161_5 : List AOper :=
  [⟨.move .look (.t 9), (some 78), none⟩,
    ⟨.move .look (.t 1), (some 81), none⟩,
    ⟨.sliceSl 1 (.t 81) (some (.c (.int .i64 1))) none, (some 82), none⟩,
    ⟨.call 170 [(.t 78, false)], (some 79), none⟩,
    ⟨.call 215 [(.p 79, false)], (some 80), none⟩,
    ⟨.call 161 [(.t 80, false), (.t 82, false)], (some 83), none⟩,
    ⟨.move .look (.t 83), (some 77), none⟩,
    ⟨.extract 77 0, (some 84), none⟩,
    ⟨.extract 77 1, (some 85), none⟩,
    ⟨.newbox1 11 [.int .u8 0, .slice .nil 0 1 []], (some 11), none⟩,
    ⟨.store 2 (.p 11) (.p 84), none, none⟩,
    ⟨.assign (.p 85), (some 12), none⟩]
@[simp] def eq161_5 := id q161_5.eq_1
def q161_6 : List AOper :=
  [⟨.load .take true 2 (.p 13), (some 106), none⟩,
    ⟨.store 2 (.p 4) (.p 106), none, none⟩,
    ⟨.assign (.c (.nilI)), (some 5), none⟩]
@[simp] def eq161_6 := id q161_6.eq_1
def q161_7 : List AOper :=
  [⟨.build [.int .u8 0, .slice .nil 0 1 []] [], (some 104), none⟩,
    ⟨.move .take (.p 14), (some 105), none⟩,
    ⟨.store 2 (.p 4) (.p 104), none, none⟩,
    ⟨.assign (.p 105), (some 5), none⟩]
@[simp] def eq161_7 := id q161_7.eq_1
def q161_8 : List AOper :=
  [⟨.move .head (.p 14), (some 102), none⟩,
    ⟨.bin .neq 5 true (.p 102) (.c (.nilI)), (some 103), none⟩]
@[simp] def eq161_8 := id q161_8.eq_1
def q161_9 : List AOper :=
  [⟨.move .look (.t 9), (some 94), none⟩,
    ⟨.move .look (.t 1), (some 97), none⟩,
    ⟨.sliceSl 1 (.t 97) (some (.c (.int .i64 1))) none, (some 98), none⟩,
    ⟨.call 170 [(.t 94, false)], (some 95), none⟩,
    ⟨.call 216 [(.p 95, false)], (some 96), none⟩,
    ⟨.call 161 [(.t 96, false), (.t 98, false)], (some 99), none⟩,
    ⟨.move .look (.t 99), (some 93), none⟩,
    ⟨.extract 93 0, (some 100), none⟩,
    ⟨.extract 93 1, (some 101), none⟩,
    ⟨.newbox1 13 [.int .u8 0, .slice .nil 0 1 []], (some 13), none⟩,
    ⟨.store 2 (.p 13) (.p 100), none, none⟩,
    ⟨.assign (.p 101), (some 14), none⟩]
@[simp] def eq161_9 := id q161_9.eq_1
def q161_10 : List AOper :=
  [⟨.build [.int .u8 0, .slice .nil 0 1 []] [], (some 69), none⟩,
    ⟨.move .look (.t 9), (some 70), none⟩,
    ⟨.call 217 [(.t 70, false)], (some 71), none⟩,
    ⟨.move .look (.p 10), (some 72), none⟩,
    ⟨.build [.str [], .int .u8 0] [(0, 1, .p 71), (1, 1, .p 72)], (some 73), none⟩,
    ⟨.mkIface 243 (.p 73), (some 74), none⟩,
    ⟨.store 2 (.p 4) (.p 69), none, none⟩,
    ⟨.assign (.p 74), (some 5), none⟩]
@[simp] def eq161_10 := id q161_10.eq_1
def q161_11 : List AOper :=
  [⟨.bin .eql 1 true (.p 68) (.c (.int .u8 4)), (some 92), none⟩,
    ⟨.assign (.p 92), (some 91), none⟩]
@[simp] def eq161_11 := id q161_11.eq_1
def q161_12 : List AOper :=
  [⟨.bin .eql 1 true (.p 68) (.c (.int .u8 3)), (some 76), none⟩,
    ⟨.assign (.p 76), (some 75), none⟩]
@[simp] def eq161_12 := id q161_12.eq_1
def q161_13 : List AOper :=
  [⟨.move .look (.t 9), (some 65), none⟩,
    ⟨.indexAddr 1 (.t 65) (.c (.int .i64 0)), (some 66), none⟩,
    ⟨.load .take false 1 (.p 66), (some 67), none⟩,
    ⟨.assign (.p 67), (some 10), none⟩]
@[simp] def eq161_13 := id q161_13.eq_1
def q161_14 : List AOper :=
  [⟨.move .head (.t 1), (some 62), none⟩,
    ⟨.len false (.p 62), (some 63), none⟩,
    ⟨.bin .gtr 1 true (.p 63) (.c (.int .i64 1)), (some 64), none⟩]
@[simp] def eq161_14 := id q161_14.eq_1
def q161_15 : List AOper :=
  [⟨.move .look (.t 9), (some 55), none⟩,
    ⟨.move .look (.t 1), (some 58), none⟩,
    ⟨.indexAddr 1 (.t 58) (.c (.int .i64 0)), (some 59), none⟩,
    ⟨.load .head false 1 (.p 59), (some 60), none⟩,
    ⟨.call 214 [(.t 55, false)], (some 56), none⟩,
    ⟨.convBS (.t 56), (some 57), none⟩,
    ⟨.bin .neq 2 false (.p 57) (.p 60), (some 61), none⟩]
@[simp] def eq161_15 := id q161_15.eq_1
def q161_16 : List AOper :=
  [⟨.build [.int .u8 0, .slice .nil 0 1 []] [], (some 50), none⟩,
    ⟨.move .look (.t 0), (some 51), none⟩,
    ⟨.move .look (.t 7), (some 52), none⟩,
    ⟨.call 166 [(.t 51, false), (.t 52, false)], (some 53), none⟩,
    ⟨.mkIface 239 (.p 53), (some 54), none⟩,
    ⟨.store 2 (.p 4) (.p 50), none, none⟩,
    ⟨.assign (.p 54), (some 5), none⟩]
@[simp] def eq161_16 := id q161_16.eq_1
def q161_17 : List AOper :=
  [⟨.move .look (.p 8), (some 48), none⟩,
    ⟨.un .not (.p 48), (some 49), none⟩]
@[simp] def eq161_17 := id q161_17.eq_1
def q161_18 : List AOper :=
  [⟨.move .look (.p 6), (some 43), none⟩,
    ⟨.move .head (.t 9), (some 44), none⟩,
    ⟨.len false (.p 44), (some 45), none⟩,
    ⟨.convInt .i32 (.p 45), (some 46), none⟩,
    ⟨.bin .sub 1 false (.p 43) (.p 46), (some 47), none⟩,
    ⟨.assign (.p 47), (some 6), none⟩]
@[simp] def eq161_18 := id q161_18.eq_1
def q161_19 : List AOper :=
  [⟨.move .look (.t 7), (some 38), none⟩,
    ⟨.call 64 [(.t 38, false)], (some 39), none⟩,
    ⟨.move .look (.t 39), (some 37), none⟩,
    ⟨.extract 37 0, (some 40), none⟩,
    ⟨.extract 37 1, (some 41), none⟩,
    ⟨.extract 37 2, (some 42), none⟩,
    ⟨.assign (.t 40), (some 9), none⟩,
    ⟨.assign (.t 41), (some 7), none⟩,
    ⟨.assign (.p 42), (some 8), none⟩]
@[simp] def eq161_19 := id q161_19.eq_1
def q161_20 : List AOper :=
  [⟨.move .look (.p 6), (some 35), none⟩,
    ⟨.bin .gtr 1 true (.p 35) (.c (.int .i32 1)), (some 36), none⟩]
@[simp] def eq161_20 := id q161_20.eq_1
def q161_21 : List AOper :=
  [⟨.move .look (.p 6), (some 33), none⟩,
    ⟨.bin .sub 1 true (.p 33) (.c (.int .i32 4)), (some 34), none⟩,
    ⟨.assign (.p 34), (some 6), none⟩]
@[simp] def eq161_21 := id q161_21.eq_1
def q161_22 : List AOper :=
  [⟨.build [.int .u8 0, .slice .nil 0 1 []] [], (some 28), none⟩,
    ⟨.move .look (.t 0), (some 29), none⟩,
    ⟨.move .look (.t 7), (some 30), none⟩,
    ⟨.call 166 [(.t 29, false), (.t 30, false)], (some 31), none⟩,
    ⟨.mkIface 239 (.p 31), (some 32), none⟩,
    ⟨.store 2 (.p 4) (.p 28), none, none⟩,
    ⟨.assign (.p 32), (some 5), none⟩]
@[simp] def eq161_22 := id q161_22.eq_1
def q161_23 : List AOper :=
  [⟨.move .look (.p 8), (some 26), none⟩,
    ⟨.un .not (.p 26), (some 27), none⟩]
@[simp] def eq161_23 := id q161_23.eq_1
def q161_24 : List AOper :=
  [⟨.move .look (.t 0), (some 21), none⟩,
    ⟨.call 54 [(.t 21, false)], (some 22), none⟩,
    ⟨.move .look (.t 22), (some 20), none⟩,
    ⟨.extract 20 0, (some 23), none⟩,
    ⟨.extract 20 1, (some 24), none⟩,
    ⟨.extract 20 2, (some 25), none⟩,
    ⟨.assign (.p 23), (some 6), none⟩,
    ⟨.assign (.t 24), (some 7), none⟩,
    ⟨.assign (.p 25), (some 8), none⟩]
@[simp] def eq161_24 := id q161_24.eq_1
def q161_25 : List AOper :=
  [⟨.load .take false 1 (.c (.gl 2)), (some 19), none⟩,
    ⟨.build [.int .u8 0, .slice .nil 0 1 []] [], (some 18), none⟩,
    ⟨.store 2 (.p 4) (.p 18), none, none⟩,
    ⟨.assign (.p 19), (some 5), none⟩]
@[simp] def eq161_25 := id q161_25.eq_1
def q161_26 : List AOper :=
  [⟨.move .head (.t 1), (some 15), none⟩,
    ⟨.len false (.p 15), (some 16), none⟩,
    ⟨.bin .lss 1 true (.p 16) (.c (.int .i64 1)), (some 17), none⟩]
@[simp] def eq161_26 := id q161_26.eq_1
def q161_27 : List AOper :=
  [⟨.newbox 4 [.int .u8 0, .slice .nil 0 1 []], (some 4), none⟩,
    ⟨.assign (.c (.nilI)), (some 5), none⟩]
@[simp] def eq161_27 := id q161_27.eq_1
def k161_0 : ACode :=
  .ops q161_0 .ret
@[simp] theorem xk161_0 : GoC fns Q s k161_0 st ↔ GoO fns Q s q161_0 .ret st := goC_ops
def k161_1 : ACode :=
  .ops q161_1 .ret
@[simp] theorem xk161_1 : GoC fns Q s k161_1 st ↔ GoO fns Q s q161_1 .ret st := goC_ops
def k161_2 : ACode :=
  .ops q161_2 .ret
@[simp] theorem xk161_2 : GoC fns Q s k161_2 st ↔ GoO fns Q s q161_2 .ret st := goC_ops
def k161_3 : ACode :=
  .ops q161_3 .ret
@[simp] theorem xk161_3 : GoC fns Q s k161_3 st ↔ GoO fns Q s q161_3 .ret st := goC_ops
def k161_4 : ACode :=
  .cond (.p 87) k161_3 .skip
@[simp] theorem xk161_4 : GoC fns Q s k161_4 st ↔ GB fns Q s (peek st (.p 87)) k161_3 .skip st := goC_cond
def k161_5 : ACode :=
  .seq k161_4 k161_2
@[simp] theorem xk161_5 : GoC fns Q s k161_5 st ↔ GoC fns Q (.sq k161_2 :: s) k161_4 st := goC_seq
def k161_6 : ACode :=
  .ops q161_4 k161_5
@[simp] theorem xk161_6 : GoC fns Q s k161_6 st ↔ GoO fns Q s q161_4 k161_5 st := goC_ops
def k161_7 : ACode :=
  .ops q161_5 k161_6
@[simp] theorem xk161_7 : GoC fns Q s k161_7 st ↔ GoO fns Q s q161_5 k161_6 st := goC_ops
def k161_8 : ACode :=
  .ops q161_6 .ret
@[simp] theorem xk161_8 : GoC fns Q s k161_8 st ↔ GoO fns Q s q161_6 .ret st := goC_ops
def k161_9 : ACode :=
  .ops q161_7 .ret
@[simp] theorem xk161_9 : GoC fns Q s k161_9 st ↔ GoO fns Q s q161_7 .ret st := goC_ops
def k161_10 : ACode :=
  .cond (.p 103) k161_9 .skip
@[simp] theorem xk161_10 : GoC fns Q s k161_10 st ↔ GB fns Q s (peek st (.p 103)) k161_9 .skip st := goC_cond
def k161_11 : ACode :=
  .seq k161_10 k161_8
@[simp] theorem xk161_11 : GoC fns Q s k161_11 st ↔ GoC fns Q (.sq k161_8 :: s) k161_10 st := goC_seq
def k161_12 : ACode :=
  .ops q161_8 k161_11
@[simp] theorem xk161_12 : GoC fns Q s k161_12 st ↔ GoO fns Q s q161_8 k161_11 st := goC_ops
def k161_13 : ACode :=
  .ops q161_9 k161_12
@[simp] theorem xk161_13 : GoC fns Q s k161_13 st ↔ GoO fns Q s q161_9 k161_12 st := goC_ops
def k161_14 : ACode :=
  .ops q161_10 .ret
@[simp] theorem xk161_14 : GoC fns Q s k161_14 st ↔ GoO fns Q s q161_10 .ret st := goC_ops
def k161_15 : ACode :=
  .cond (.p 91) k161_13 k161_14
@[simp] theorem xk161_15 : GoC fns Q s k161_15 st ↔ GB fns Q s (peek st (.p 91)) k161_13 k161_14 st := goC_cond
def k161_16 : ACode :=
  .ops q161_11 k161_15
@[simp] theorem xk161_16 : GoC fns Q s k161_16 st ↔ GoO fns Q s q161_11 k161_15 st := goC_ops
def k161_17 : ACode :=
  .cond (.p 75) k161_7 k161_16
@[simp] theorem xk161_17 : GoC fns Q s k161_17 st ↔ GB fns Q s (peek st (.p 75)) k161_7 k161_16 st := goC_cond
def k161_18 : ACode :=
  .ops q161_12 k161_17
@[simp] theorem xk161_18 : GoC fns Q s k161_18 st ↔ GoO fns Q s q161_12 k161_17 st := goC_ops
def k161_19 : ACode :=
  .block 2 k161_18
@[simp] theorem xk161_19 : GoC fns Q s k161_19 st ↔ GoC fns Q (.bl 2 :: s) k161_18 st := goC_block
def k161_20 : ACode :=
  .ops [⟨.move .head (.p 10), (some 68), none⟩] k161_19
@[simp] theorem xk161_20 : GoC fns Q s k161_20 st ↔ GoO fns Q s [⟨.move .head (.p 10), (some 68), none⟩] k161_19 st := goC_ops
def k161_21 : ACode :=
  .ops q161_13 k161_20
@[simp] theorem xk161_21 : GoC fns Q s k161_21 st ↔ GoO fns Q s q161_13 k161_20 st := goC_ops
def k161_22 : ACode :=
  .cond (.p 64) k161_21 .skip
@[simp] theorem xk161_22 : GoC fns Q s k161_22 st ↔ GB fns Q s (peek st (.p 64)) k161_21 .skip st := goC_cond
def k161_23 : ACode :=
  .seq k161_22 k161_1
@[simp] theorem xk161_23 : GoC fns Q s k161_23 st ↔ GoC fns Q (.sq k161_1 :: s) k161_22 st := goC_seq
def k161_24 : ACode :=
  .ops q161_14 k161_23
@[simp] theorem xk161_24 : GoC fns Q s k161_24 st ↔ GoO fns Q s q161_14 k161_23 st := goC_ops
def k161_25 : ACode :=
  .cond (.p 61) (.exit 1) .skip
@[simp] theorem xk161_25 : GoC fns Q s k161_25 st ↔ GB fns Q s (peek st (.p 61)) (.exit 1) .skip st := goC_cond
def k161_26 : ACode :=
  .seq k161_25 k161_24
@[simp] theorem xk161_26 : GoC fns Q s k161_26 st ↔ GoC fns Q (.sq k161_24 :: s) k161_25 st := goC_seq
def k161_27 : ACode :=
  .ops q161_15 k161_26
@[simp] theorem xk161_27 : GoC fns Q s k161_27 st ↔ GoO fns Q s q161_15 k161_26 st := goC_ops
def k161_28 : ACode :=
  .ops q161_16 .ret
@[simp] theorem xk161_28 : GoC fns Q s k161_28 st ↔ GoO fns Q s q161_16 .ret st := goC_ops
def k161_29 : ACode :=
  .cond (.p 49) k161_28 .skip
@[simp] theorem xk161_29 : GoC fns Q s k161_29 st ↔ GB fns Q s (peek st (.p 49)) k161_28 .skip st := goC_cond
def k161_30 : ACode :=
  .seq k161_29 k161_27
@[simp] theorem xk161_30 : GoC fns Q s k161_30 st ↔ GoC fns Q (.sq k161_27 :: s) k161_29 st := goC_seq
def k161_31 : ACode :=
  .ops q161_17 k161_30
@[simp] theorem xk161_31 : GoC fns Q s k161_31 st ↔ GoO fns Q s q161_17 k161_30 st := goC_ops
def k161_32 : ACode :=
  .ops q161_18 k161_31
@[simp] theorem xk161_32 : GoC fns Q s k161_32 st ↔ GoO fns Q s q161_18 k161_31 st := goC_ops
def k161_33 : ACode :=
  .ops q161_19 k161_32
@[simp] theorem xk161_33 : GoC fns Q s k161_33 st ↔ GoO fns Q s q161_19 k161_32 st := goC_ops
def k161_34 : ACode :=
  .block 1 k161_33
@[simp] theorem xk161_34 : GoC fns Q s k161_34 st ↔ GoC fns Q (.bl 1 :: s) k161_33 st := goC_block
def k161_35 : ACode :=
  .cond (.p 36) .skip (.exit 0)
@[simp] theorem xk161_35 : GoC fns Q s k161_35 st ↔ GB fns Q s (peek st (.p 36)) .skip (.exit 0) st := goC_cond
def k161_36 : ACode :=
  .seq k161_35 k161_34
@[simp] theorem xk161_36 : GoC fns Q s k161_36 st ↔ GoC fns Q (.sq k161_34 :: s) k161_35 st := goC_seq
def k161_37 : ACode :=
  .ops q161_20 k161_36
@[simp] theorem xk161_37 : GoC fns Q s k161_37 st ↔ GoO fns Q s q161_20 k161_36 st := goC_ops
def lc161_0 : ACode :=
  k161_37
@[simp] theorem xlc161_0 : GoC fns Q s lc161_0 st ↔ GoC fns Q s k161_37 st := Iff.rfl
def k161_39 : ACode :=
  .loop lc161_0
@[simp] theorem xk161_39 : GoC fns Q s k161_39 st ↔ (LoopR fns lc161_0 st fun r => GoE fns Q s r.1 r.2) := goC_loop
def k161_40 : ACode :=
  .block 0 k161_39
@[simp] theorem xk161_40 : GoC fns Q s k161_40 st ↔ GoC fns Q (.bl 0 :: s) k161_39 st := goC_block
def k161_41 : ACode :=
  .seq k161_40 k161_0
@[simp] theorem xk161_41 : GoC fns Q s k161_41 st ↔ GoC fns Q (.sq k161_0 :: s) k161_40 st := goC_seq
def k161_42 : ACode :=
  .ops [⟨.assign (.c (.slice .nil 0 1 [])), (some 9), none⟩] k161_41
@[simp] theorem xk161_42 : GoC fns Q s k161_42 st ↔ GoO fns Q s [⟨.assign (.c (.slice .nil 0 1 [])), (some 9), none⟩] k161_41 st := goC_ops
def k161_43 : ACode :=
  .ops q161_21 k161_42
@[simp] theorem xk161_43 : GoC fns Q s k161_43 st ↔ GoO fns Q s q161_21 k161_42 st := goC_ops
def k161_44 : ACode :=
  .ops q161_22 .ret
@[simp] theorem xk161_44 : GoC fns Q s k161_44 st ↔ GoO fns Q s q161_22 .ret st := goC_ops
def k161_45 : ACode :=
  .cond (.p 27) k161_44 .skip
@[simp] theorem xk161_45 : GoC fns Q s k161_45 st ↔ GB fns Q s (peek st (.p 27)) k161_44 .skip st := goC_cond
def k161_46 : ACode :=
  .seq k161_45 k161_43
@[simp] theorem xk161_46 : GoC fns Q s k161_46 st ↔ GoC fns Q (.sq k161_43 :: s) k161_45 st := goC_seq
def k161_47 : ACode :=
  .ops q161_23 k161_46
@[simp] theorem xk161_47 : GoC fns Q s k161_47 st ↔ GoO fns Q s q161_23 k161_46 st := goC_ops
def k161_48 : ACode :=
  .ops q161_24 k161_47
@[simp] theorem xk161_48 : GoC fns Q s k161_48 st ↔ GoO fns Q s q161_24 k161_47 st := goC_ops
def k161_49 : ACode :=
  .ops q161_25 .ret
@[simp] theorem xk161_49 : GoC fns Q s k161_49 st ↔ GoO fns Q s q161_25 .ret st := goC_ops
def k161_50 : ACode :=
  .cond (.p 17) k161_49 .skip
@[simp] theorem xk161_50 : GoC fns Q s k161_50 st ↔ GB fns Q s (peek st (.p 17)) k161_49 .skip st := goC_cond
def k161_51 : ACode :=
  .seq k161_50 k161_48
@[simp] theorem xk161_51 : GoC fns Q s k161_51 st ↔ GoC fns Q (.sq k161_48 :: s) k161_50 st := goC_seq
def k161_52 : ACode :=
  .ops q161_26 k161_51
@[simp] theorem xk161_52 : GoC fns Q s k161_52 st ↔ GoO fns Q s q161_26 k161_51 st := goC_ops
def k161_53 : ACode :=
  .ops q161_27 k161_52
@[simp] theorem xk161_53 : GoC fns Q s k161_53 st ↔ GoO fns Q s q161_27 k161_52 st := goC_ops
def af161 : AFunc := ⟨113, k161_53, [.cell 4 true 2, .tmp 5], fun _ _ => none⟩

theorem ok161 : ∃ hs, pFunc Tryz.prog sg hs Tryz.f161 = some af161 := ⟨fun i => if i == 11 then 4 else if i == 13 then 4 else 0, by kernel_rfl⟩
def q62_0 : List AOper :=
  [⟨.fieldAddr 0 (.p 1), (some 3), none⟩,
    ⟨.load .look false 1 (.p 3), (some 4), none⟩,
    ⟨.convInt .i64 (.p 4), (some 5), none⟩,
    ⟨.fieldAddr 1 (.p 1), (some 6), none⟩,
    ⟨.load .look false 1 (.p 6), (some 7), none⟩,
    ⟨.call 55 [(.t 7, false)], (some 8), none⟩,
    ⟨.build [.int .i64 0, .slice .nil 0 1 []] [(0, 1, .p 5), (1, 1, .t 8)], (some 9), none⟩,
    ⟨.store 2 (.p 2) (.p 9), none, none⟩]
@[simp] def eq62_0 := id q62_0.eq_1
def q62_1 : List AOper :=
  [⟨.box 1 (.p 0), (some 1), none⟩,
    ⟨.newbox 2 [.int .i64 0, .slice .nil 0 1 []], (some 2), none⟩]
@[simp] def eq62_1 := id q62_1.eq_1
def k62_0 : ACode :=
  .ops q62_0 .ret
@[simp] theorem xk62_0 : GoC fns Q s k62_0 st ↔ GoO fns Q s q62_0 .ret st := goC_ops
def k62_1 : ACode :=
  .ops q62_1 k62_0
@[simp] theorem xk62_1 : GoC fns Q s k62_1 st ↔ GoO fns Q s q62_1 k62_0 st := goC_ops
def af62 : AFunc := ⟨10, k62_1, [.cell 2 true 2], fun _ _ => none⟩

theorem ok62 : ∃ hs, pFunc Tryz.prog sg hs Tryz.f62 = some af62 := ⟨fun i => 0, by kernel_rfl⟩
def q58_0 : List AOper :=
  [⟨.load .look true 2 (.p 6), (some 14), none⟩,
    ⟨.call 62 [(.p 14, false)], (some 15), none⟩,
    ⟨.move .look (.p 7), (some 16), none⟩,
    ⟨.hcall 65 [(.p 16, false)], (some 17), none⟩,
    ⟨.store 2 (.p 4) (.p 15), none, none⟩,
    ⟨.assign (.p 17), (some 5), none⟩]
@[simp] def eq58_0 := id q58_0.eq_1
def q58_1 : List AOper :=
  [⟨.move .look (.t 0), (some 9), none⟩,
    ⟨.move .look (.t 1), (some 10), none⟩,
    ⟨.call 161 [(.t 9, false), (.t 10, false)], (some 11), none⟩,
    ⟨.move .look (.t 11), (some 8), none⟩,
    ⟨.extract 8 0, (some 12), none⟩,
    ⟨.extract 8 1, (some 13), none⟩,
    ⟨.newbox 6 [.int .u8 0, .slice .nil 0 1 []], (some 6), none⟩,
    ⟨.store 2 (.p 6) (.p 12), none, none⟩,
    ⟨.assign (.p 13), (some 7), none⟩]
@[simp] def eq58_1 := id q58_1.eq_1
def q58_2 : List AOper :=
  [⟨.newbox 4 [.int .i64 0, .slice .nil 0 1 []], (some 4), none⟩,
    ⟨.assign (.c (.int .i64 0)), (some 5), none⟩]
@[simp] def eq58_2 := id q58_2.eq_1
def k58_0 : ACode :=
  .ops q58_0 .ret
@[simp] theorem xk58_0 : GoC fns Q s k58_0 st ↔ GoO fns Q s q58_0 .ret st := goC_ops
def k58_1 : ACode :=
  .ops q58_1 k58_0
@[simp] theorem xk58_1 : GoC fns Q s k58_1 st ↔ GoO fns Q s q58_1 k58_0 st := goC_ops
def k58_2 : ACode :=
  .ops q58_2 k58_1
@[simp] theorem xk58_2 : GoC fns Q s k58_2 st ↔ GoO fns Q s q58_2 k58_1 st := goC_ops
def af58 : AFunc := ⟨18, k58_2, [.cell 4 true 2, .tmp 5], fun _ _ => none⟩

theorem ok58 : ∃ hs, pFunc Tryz.prog sg hs Tryz.f58 = some af58 := ⟨fun i => 0, by kernel_rfl⟩
def q260_0 : List AOper :=
  [⟨.move .look (.p 0), (some 7), none⟩,
    ⟨.bin .add 2 true (.p 7) (.c (.str [32, 108, 101, 110, 103, 116, 104, 32, 101, 120, 99, 101, 101, 100, 115, 32, 97, 118, 97, 105, 108, 97, 98, 108, 101, 32, 98, 121, 116, 101, 115])), (some 8), none⟩,
    ⟨.mkIface 240 (.p 8), (some 9), none⟩,
    ⟨.assign (.p 9), (some 6), none⟩]
@[simp] def eq260_0 := id q260_0.eq_1
def k260_0 : ACode :=
  .ops q260_0 .ret
@[simp] theorem xk260_0 : GoC fns Q s k260_0 st ↔ GoO fns Q s q260_0 .ret st := goC_ops
def k260_1 : ACode :=
  .ops [⟨.assign (.c (.nilI)), (some 6), none⟩] k260_0
@[simp] theorem xk260_1 : GoC fns Q s k260_1 st ↔ GoO fns Q s [⟨.assign (.c (.nilI)), (some 6), none⟩] k260_0 st := goC_ops
def af260 : AFunc := ⟨10, k260_1, [.tmp 6], fun _ _ => none⟩

theorem ok260 : ∃ hs, pFunc Tryz.prog sg hs Tryz.f260 = some af260 := ⟨fun i => 0, by kernel_rfl⟩
def q219_0 : List AOper :=
  [⟨.move .look (.p 0), (some 5), none⟩,
    ⟨.move .look (.p 1), (some 6), none⟩,
    ⟨.call 260 [(.c (.str [100, 111, 99, 117, 109, 101, 110, 116]), false), (.p 5, false), (.p 6, false)], (some 7), none⟩,
    ⟨.assign (.p 7), (some 4), none⟩]
@[simp] def eq219_0 := id q219_0.eq_1
def k219_0 : ACode :=
  .ops q219_0 .ret
@[simp] theorem xk219_0 : GoC fns Q s k219_0 st ↔ GoO fns Q s q219_0 .ret st := goC_ops
def k219_1 : ACode :=
  .ops [⟨.assign (.c (.nilI)), (some 4), none⟩] k219_0
@[simp] theorem xk219_1 : GoC fns Q s k219_1 st ↔ GoO fns Q s [⟨.assign (.c (.nilI)), (some 4), none⟩] k219_0 st := goC_ops
def af219 : AFunc := ⟨8, k219_1, [.tmp 4], fun _ _ => none⟩

theorem ok219 : ∃ hs, pFunc Tryz.prog sg hs Tryz.f219 = some af219 := ⟨fun i => 0, by kernel_rfl⟩
def q172_0 : List AOper :=
  [⟨.move .look (.t 0), (some 14), none⟩,
    ⟨.indexAddr 1 (.t 14) (.c (.int .i64 0)), (some 15), none⟩,
    ⟨.load .look false 1 (.p 15), (some 16), none⟩,
    ⟨.move .look (.t 0), (some 17), none⟩,
    ⟨.move .look (.p 3), (some 18), none⟩,
    ⟨.bin .add 1 true (.p 18) (.c (.int .i64 2)), (some 19), none⟩,
    ⟨.sliceSl 1 (.t 17) (some (.p 19)) none, (some 20), none⟩,
    ⟨.build [.int .u8 0, .slice .nil 0 1 []] [(0, 1, .p 16), (1, 1, .t 20)], (some 21), none⟩,
    ⟨.call 67 [(.p 21, false)], (some 22), none⟩,
    ⟨.assign (.p 22), (some 2), none⟩]
@[simp] def eq172_0 := id q172_0.eq_1
def q172_1 : List AOper :=
  [⟨.mkIface 241 (.c (.str [101, 108, 101, 109, 101, 110, 116, 32, 105, 115, 32, 109, 105, 115, 115, 105, 110, 103, 32, 107, 101, 121])), (some 13), none⟩,
    ⟨.assign (.p 13), (some 2), none⟩]
@[simp] def eq172_1 := id q172_1.eq_1
def q172_2 : List AOper :=
  [⟨.move .head (.p 3), (some 11), none⟩,
    ⟨.bin .eql 1 true (.p 11) (.c (.int .i64 (-1))), (some 12), none⟩]
@[simp] def eq172_2 := id q172_2.eq_1
def q172_3 : List AOper :=
  [⟨.move .look (.t 0), (some 8), none⟩,
    ⟨.sliceSl 1 (.t 8) (some (.c (.int .i64 1))) none, (some 9), none⟩,
    ⟨.call 220 [(.t 9, false), (.c (.int .u8 0), false)], (some 10), none⟩,
    ⟨.assign (.p 10), (some 3), none⟩]
@[simp] def eq172_3 := id q172_3.eq_1
def q172_4 : List AOper :=
  [⟨.mkIface 241 (.c (.str [101, 108, 101, 109, 101, 110, 116, 32, 105, 115, 32, 109, 105, 115, 115, 105, 110, 103, 32, 116, 121, 112, 101])), (some 7), none⟩,
    ⟨.assign (.p 7), (some 2), none⟩]
@[simp] def eq172_4 := id q172_4.eq_1
def q172_5 : List AOper :=
  [⟨.move .head (.t 0), (some 4), none⟩,
    ⟨.len false (.p 4), (some 5), none⟩,
    ⟨.bin .lss 1 true (.p 5) (.c (.int .i64 1)), (some 6), none⟩]
@[simp] def eq172_5 := id q172_5.eq_1
def k172_0 : ACode :=
  .ops q172_0 .ret
@[simp] theorem xk172_0 : GoC fns Q s k172_0 st ↔ GoO fns Q s q172_0 .ret st := goC_ops
def k172_1 : ACode :=
  .ops q172_1 .ret
@[simp] theorem xk172_1 : GoC fns Q s k172_1 st ↔ GoO fns Q s q172_1 .ret st := goC_ops
def k172_2 : ACode :=
  .cond (.p 12) k172_1 .skip
@[simp] theorem xk172_2 : GoC fns Q s k172_2 st ↔ GB fns Q s (peek st (.p 12)) k172_1 .skip st := goC_cond
def k172_3 : ACode :=
  .seq k172_2 k172_0
@[simp] theorem xk172_3 : GoC fns Q s k172_3 st ↔ GoC fns Q (.sq k172_0 :: s) k172_2 st := goC_seq
def k172_4 : ACode :=
  .ops q172_2 k172_3
@[simp] theorem xk172_4 : GoC fns Q s k172_4 st ↔ GoO fns Q s q172_2 k172_3 st := goC_ops
def k172_5 : ACode :=
  .ops q172_3 k172_4
@[simp] theorem xk172_5 : GoC fns Q s k172_5 st ↔ GoO fns Q s q172_3 k172_4 st := goC_ops
def k172_6 : ACode :=
  .ops q172_4 .ret
@[simp] theorem xk172_6 : GoC fns Q s k172_6 st ↔ GoO fns Q s q172_4 .ret st := goC_ops
def k172_7 : ACode :=
  .cond (.p 6) k172_6 .skip
@[simp] theorem xk172_7 : GoC fns Q s k172_7 st ↔ GB fns Q s (peek st (.p 6)) k172_6 .skip st := goC_cond
def k172_8 : ACode :=
  .seq k172_7 k172_5
@[simp] theorem xk172_8 : GoC fns Q s k172_8 st ↔ GoC fns Q (.sq k172_5 :: s) k172_7 st := goC_seq
def k172_9 : ACode :=
  .ops q172_5 k172_8
@[simp] theorem xk172_9 : GoC fns Q s k172_9 st ↔ GoO fns Q s q172_5 k172_8 st := goC_ops
def k172_10 : ACode :=
  .ops [⟨.assign (.c (.nilI)), (some 2), none⟩] k172_9
@[simp] theorem xk172_10 : GoC fns Q s k172_10 st ↔ GoO fns Q s [⟨.assign (.c (.nilI)), (some 2), none⟩] k172_9 st := goC_ops
def af172 : AFunc := ⟨23, k172_10, [.tmp 2], fun _ _ => none⟩

theorem ok172 : ∃ hs, pFunc Tryz.prog sg hs Tryz.f172 = some af172 := ⟨fun i => 0, by kernel_rfl⟩
def q162_0 : List AOper :=
  [⟨.mkIface 240 (.c (.str [100, 111, 99, 117, 109, 101, 110, 116, 32, 111, 114, 32, 97, 114, 114, 97, 121, 32, 101, 110, 100, 32, 105, 115, 32, 109, 105, 115, 115, 105, 110, 103, 32, 110, 117, 108, 108, 32, 98, 121, 116, 101])), (some 75), none⟩,
    ⟨.assign (.p 75), (some 2), none⟩]
@[simp] def eq162_0 := id q162_0.eq_1
def q162_1 : List AOper :=
  [⟨.move .head (.t 4), (some 66), none⟩,
    ⟨.len false (.p 66), (some 67), none⟩,
    ⟨.bin .lss 1 true (.p 67) (.c (.int .i64 1)), (some 68), none⟩,
    ⟨.move .look (.p 68), (some 69), none⟩,
    ⟨.move .look (.t 4), (some 70), (some (69, false))⟩,
    ⟨.indexAddr 1 (.t 70) (.c (.int .i64 0)), (some 71), (some (69, false))⟩,
    ⟨.load .head false 1 (.p 71), (some 72), (some (69, false))⟩,
    ⟨.bin .neq 1 true (.p 72) (.c (.int .u8 0)), (some 73), (some (69, false))⟩,
    ⟨.pick (.p 69) (.c (.bool true)) (.p 73), (some 74), none⟩]
@[simp] def eq162_1 := id q162_1.eq_1
def q162_2 : List AOper :=
  [⟨.move .take (.p 7), (some 65), none⟩,
    ⟨.assign (.p 65), (some 2), none⟩]
@[simp] def eq162_2 := id q162_2.eq_1
def q162_3 : List AOper :=
  [⟨.move .head (.p 7), (some 63), none⟩,
    ⟨.bin .neq 5 true (.p 63) (.c (.nilI)), (some 64), none⟩]
@[simp] def eq162_3 := id q162_3.eq_1
def q162_4 : List AOper :=
  [⟨.move .look (.t 6), (some 61), none⟩,
    ⟨.call 172 [(.t 61, false)], (some 62), none⟩,
    ⟨.assign (.p 62), (some 7), none⟩]
@[simp] def eq162_4 := id q162_4.eq_1
def q162_5 : List AOper :=
  [⟨.move .look (.t 0), (some 57), none⟩,
    ⟨.move .look (.t 4), (some 58), none⟩,
    ⟨.call 166 [(.t 57, false), (.t 58, false)], (some 59), none⟩,
    ⟨.mkIface 239 (.p 59), (some 60), none⟩,
    ⟨.assign (.p 60), (some 2), none⟩]
@[simp] def eq162_5 := id q162_5.eq_1
def q162_6 : List AOper :=
  [⟨.move .look (.p 5), (some 55), none⟩,
    ⟨.un .not (.p 55), (some 56), none⟩]
@[simp] def eq162_6 := id q162_6.eq_1
def q162_7 : List AOper :=
  [⟨.move .look (.p 3), (some 50), none⟩,
    ⟨.move .head (.t 6), (some 51), none⟩,
    ⟨.len false (.p 51), (some 52), none⟩,
    ⟨.convInt .i32 (.p 52), (some 53), none⟩,
    ⟨.bin .sub 1 false (.p 50) (.p 53), (some 54), none⟩,
    ⟨.assign (.p 54), (some 3), none⟩]
@[simp] def eq162_7 := id q162_7.eq_1
def q162_8 : List AOper :=
  [⟨.move .look (.t 4), (some 45), none⟩,
    ⟨.call 64 [(.t 45, false)], (some 46), none⟩,
    ⟨.move .look (.t 46), (some 44), none⟩,
    ⟨.extract 44 0, (some 47), none⟩,
    ⟨.extract 44 1, (some 48), none⟩,
    ⟨.extract 44 2, (some 49), none⟩,
    ⟨.assign (.t 47), (some 6), none⟩,
    ⟨.assign (.t 48), (some 4), none⟩,
    ⟨.assign (.p 49), (some 5), none⟩]
@[simp] def eq162_8 := id q162_8.eq_1
def q162_9 : List AOper :=
  [⟨.move .look (.p 3), (some 42), none⟩,
    ⟨.bin .gtr 1 true (.p 42) (.c (.int .i32 1)), (some 43), none⟩]
@[simp] def eq162_9 := id q162_9.eq_1
def q162_10 : List AOper :=
  [⟨.move .look (.p 3), (some 40), none⟩,
    ⟨.bin .sub 1 true (.p 40) (.c (.int .i32 4)), (some 41), none⟩,
    ⟨.assign (.p 41), (some 3), none⟩]
@[simp] def eq162_10 := id q162_10.eq_1
def q162_11 : List AOper :=
  [⟨.mkIface 240 (.c (.str [100, 111, 99, 117, 109, 101, 110, 116, 32, 111, 114, 32, 97, 114, 114, 97, 121, 32, 101, 110, 100, 32, 105, 115, 32, 109, 105, 115, 115, 105, 110, 103, 32, 110, 117, 108, 108, 32, 98, 121, 116, 101])), (some 39), none⟩,
    ⟨.assign (.p 39), (some 2), none⟩]
@[simp] def eq162_11 := id q162_11.eq_1
def q162_12 : List AOper :=
  [⟨.move .look (.t 0), (some 33), none⟩,
    ⟨.move .look (.p 3), (some 34), none⟩,
    ⟨.bin .sub 1 true (.p 34) (.c (.int .i32 1)), (some 35), none⟩,
    ⟨.indexAddr 1 (.t 33) (.p 35), (some 36), none⟩,
    ⟨.load .head false 1 (.p 36), (some 37), none⟩,
    ⟨.bin .neq 1 true (.p 37) (.c (.int .u8 0)), (some 38), none⟩]
@[simp] def eq162_12 := id q162_12.eq_1
def q162_13 : List AOper :=
  [⟨.mkIface 240 (.c (.str [100, 111, 99, 117, 109, 101, 110, 116, 32, 111, 114, 32, 97, 114, 114, 97, 121, 32, 108, 101, 110, 103, 116, 104, 32, 105, 115, 32, 105, 110, 118, 97, 108, 105, 100])), (some 32), none⟩,
    ⟨.assign (.p 32), (some 2), none⟩]
@[simp] def eq162_13 := id q162_13.eq_1
def q162_14 : List AOper :=
  [⟨.move .look (.p 3), (some 30), none⟩,
    ⟨.bin .lss 1 true (.p 30) (.c (.int .i32 5)), (some 31), none⟩]
@[simp] def eq162_14 := id q162_14.eq_1
def q162_15 : List AOper :=
  [⟨.move .look (.p 3), (some 25), none⟩,
    ⟨.convInt .i64 (.p 25), (some 26), none⟩,
    ⟨.move .head (.t 0), (some 27), none⟩,
    ⟨.len false (.p 27), (some 28), none⟩,
    ⟨.call 219 [(.p 26, false), (.p 28, false)], (some 29), none⟩,
    ⟨.assign (.p 29), (some 2), none⟩]
@[simp] def eq162_15 := id q162_15.eq_1
def q162_16 : List AOper :=
  [⟨.move .look (.p 3), (some 20), none⟩,
    ⟨.convInt .i64 (.p 20), (some 21), none⟩,
    ⟨.move .head (.t 0), (some 22), none⟩,
    ⟨.len false (.p 22), (some 23), none⟩,
    ⟨.bin .gtr 1 false (.p 21) (.p 23), (some 24), none⟩]
@[simp] def eq162_16 := id q162_16.eq_1
def q162_17 : List AOper :=
  [⟨.move .look (.t 0), (some 16), none⟩,
    ⟨.move .look (.t 4), (some 17), none⟩,
    ⟨.call 166 [(.t 16, false), (.t 17, false)], (some 18), none⟩,
    ⟨.mkIface 239 (.p 18), (some 19), none⟩,
    ⟨.assign (.p 19), (some 2), none⟩]
@[simp] def eq162_17 := id q162_17.eq_1
def q162_18 : List AOper :=
  [⟨.move .look (.p 5), (some 14), none⟩,
    ⟨.un .not (.p 14), (some 15), none⟩]
@[simp] def eq162_18 := id q162_18.eq_1
def q162_19 : List AOper :=
  [⟨.move .look (.t 0), (some 9), none⟩,
    ⟨.call 54 [(.t 9, false)], (some 10), none⟩,
    ⟨.move .look (.t 10), (some 8), none⟩,
    ⟨.extract 8 0, (some 11), none⟩,
    ⟨.extract 8 1, (some 12), none⟩,
    ⟨.extract 8 2, (some 13), none⟩,
    ⟨.assign (.p 11), (some 3), none⟩,
    ⟨.assign (.t 12), (some 4), none⟩,
    ⟨.assign (.p 13), (some 5), none⟩]
@[simp] def eq162_19 := id q162_19.eq_1
def k162_0 : ACode :=
  .ops [⟨.assign (.c (.nilI)), (some 2), none⟩] .ret
@[simp] theorem xk162_0 : GoC fns Q s k162_0 st ↔ GoO fns Q s [⟨.assign (.c (.nilI)), (some 2), none⟩] .ret st := goC_ops
def k162_1 : ACode :=
  .ops q162_0 .ret
@[simp] theorem xk162_1 : GoC fns Q s k162_1 st ↔ GoO fns Q s q162_0 .ret st := goC_ops
def k162_2 : ACode :=
  .cond (.p 74) k162_1 .skip
@[simp] theorem xk162_2 : GoC fns Q s k162_2 st ↔ GB fns Q s (peek st (.p 74)) k162_1 .skip st := goC_cond
def k162_3 : ACode :=
  .seq k162_2 k162_0
@[simp] theorem xk162_3 : GoC fns Q s k162_3 st ↔ GoC fns Q (.sq k162_0 :: s) k162_2 st := goC_seq
def k162_4 : ACode :=
  .ops q162_1 k162_3
@[simp] theorem xk162_4 : GoC fns Q s k162_4 st ↔ GoO fns Q s q162_1 k162_3 st := goC_ops
def k162_5 : ACode :=
  .ops q162_2 .ret
@[simp] theorem xk162_5 : GoC fns Q s k162_5 st ↔ GoO fns Q s q162_2 .ret st := goC_ops
def k162_6 : ACode :=
  .cond (.p 64) k162_5 .skip
@[simp] theorem xk162_6 : GoC fns Q s k162_6 st ↔ GB fns Q s (peek st (.p 64)) k162_5 .skip st := goC_cond
def k162_7 : ACode :=
  .ops q162_3 k162_6
@[simp] theorem xk162_7 : GoC fns Q s k162_7 st ↔ GoO fns Q s q162_3 k162_6 st := goC_ops
def k162_8 : ACode :=
  .ops q162_4 k162_7
@[simp] theorem xk162_8 : GoC fns Q s k162_8 st ↔ GoO fns Q s q162_4 k162_7 st := goC_ops
def k162_9 : ACode :=
  .ops q162_5 .ret
@[simp] theorem xk162_9 : GoC fns Q s k162_9 st ↔ GoO fns Q s q162_5 .ret st := goC_ops
def k162_10 : ACode :=
  .cond (.p 56) k162_9 .skip
@[simp] theorem xk162_10 : GoC fns Q s k162_10 st ↔ GB fns Q s (peek st (.p 56)) k162_9 .skip st := goC_cond
def k162_11 : ACode :=
  .seq k162_10 k162_8
@[simp] theorem xk162_11 : GoC fns Q s k162_11 st ↔ GoC fns Q (.sq k162_8 :: s) k162_10 st := goC_seq
def k162_12 : ACode :=
  .ops q162_6 k162_11
@[simp] theorem xk162_12 : GoC fns Q s k162_12 st ↔ GoO fns Q s q162_6 k162_11 st := goC_ops
def k162_13 : ACode :=
  .ops q162_7 k162_12
@[simp] theorem xk162_13 : GoC fns Q s k162_13 st ↔ GoO fns Q s q162_7 k162_12 st := goC_ops
def k162_14 : ACode :=
  .ops q162_8 k162_13
@[simp] theorem xk162_14 : GoC fns Q s k162_14 st ↔ GoO fns Q s q162_8 k162_13 st := goC_ops
def k162_15 : ACode :=
  .block 1 k162_14
@[simp] theorem xk162_15 : GoC fns Q s k162_15 st ↔ GoC fns Q (.bl 1 :: s) k162_14 st := goC_block
def k162_16 : ACode :=
  .cond (.p 43) .skip (.exit 0)
@[simp] theorem xk162_16 : GoC fns Q s k162_16 st ↔ GB fns Q s (peek st (.p 43)) .skip (.exit 0) st := goC_cond
def k162_17 : ACode :=
  .seq k162_16 k162_15
@[simp] theorem xk162_17 : GoC fns Q s k162_17 st ↔ GoC fns Q (.sq k162_15 :: s) k162_16 st := goC_seq
def k162_18 : ACode :=
  .ops q162_9 k162_17
@[simp] theorem xk162_18 : GoC fns Q s k162_18 st ↔ GoO fns Q s q162_9 k162_17 st := goC_ops
def lc162_0 : ACode :=
  k162_18
@[simp] theorem xlc162_0 : GoC fns Q s lc162_0 st ↔ GoC fns Q s k162_18 st := Iff.rfl
def k162_20 : ACode :=
  .loop lc162_0
@[simp] theorem xk162_20 : GoC fns Q s k162_20 st ↔ (LoopR fns lc162_0 st fun r => GoE fns Q s r.1 r.2) := goC_loop
def k162_21 : ACode :=
  .block 0 k162_20
@[simp] theorem xk162_21 : GoC fns Q s k162_21 st ↔ GoC fns Q (.bl 0 :: s) k162_20 st := goC_block
def k162_22 : ACode :=
  .seq k162_21 k162_4
@[simp] theorem xk162_22 : GoC fns Q s k162_22 st ↔ GoC fns Q (.sq k162_4 :: s) k162_21 st := goC_seq
def k162_23 : ACode :=
  .ops [⟨.assign (.c (.slice .nil 0 1 [])), (some 6), none⟩] k162_22
@[simp] theorem xk162_23 : GoC fns Q s k162_23 st ↔ GoO fns Q s [⟨.assign (.c (.slice .nil 0 1 [])), (some 6), none⟩] k162_22 st := goC_ops
def k162_24 : ACode :=
  .ops q162_10 k162_23
@[simp] theorem xk162_24 : GoC fns Q s k162_24 st ↔ GoO fns Q s q162_10 k162_23 st := goC_ops
def k162_25 : ACode :=
  .ops q162_11 .ret
@[simp] theorem xk162_25 : GoC fns Q s k162_25 st ↔ GoO fns Q s q162_11 .ret st := goC_ops
def k162_26 : ACode :=
  .cond (.p 38) k162_25 .skip
@[simp] theorem xk162_26 : GoC fns Q s k162_26 st ↔ GB fns Q s (peek st (.p 38)) k162_25 .skip st := goC_cond
def k162_27 : ACode :=
  .seq k162_26 k162_24
@[simp] theorem xk162_27 : GoC fns Q s k162_27 st ↔ GoC fns Q (.sq k162_24 :: s) k162_26 st := goC_seq
def k162_28 : ACode :=
  .ops q162_12 k162_27
@[simp] theorem xk162_28 : GoC fns Q s k162_28 st ↔ GoO fns Q s q162_12 k162_27 st := goC_ops
def k162_29 : ACode :=
  .ops q162_13 .ret
@[simp] theorem xk162_29 : GoC fns Q s k162_29 st ↔ GoO fns Q s q162_13 .ret st := goC_ops
def k162_30 : ACode :=
  .cond (.p 31) k162_29 .skip
@[simp] theorem xk162_30 : GoC fns Q s k162_30 st ↔ GB fns Q s (peek st (.p 31)) k162_29 .skip st := goC_cond
def k162_31 : ACode :=
  .seq k162_30 k162_28
@[simp] theorem xk162_31 : GoC fns Q s k162_31 st ↔ GoC fns Q (.sq k162_28 :: s) k162_30 st := goC_seq
def k162_32 : ACode :=
  .ops q162_14 k162_31
@[simp] theorem xk162_32 : GoC fns Q s k162_32 st ↔ GoO fns Q s q162_14 k162_31 st := goC_ops
def k162_33 : ACode :=
  .ops q162_15 .ret
@[simp] theorem xk162_33 : GoC fns Q s k162_33 st ↔ GoO fns Q s q162_15 .ret st := goC_ops
def k162_34 : ACode :=
  .cond (.p 24) k162_33 .skip
@[simp] theorem xk162_34 : GoC fns Q s k162_34 st ↔ GB fns Q s (peek st (.p 24)) k162_33 .skip st := goC_cond
def k162_35 : ACode :=
  .seq k162_34 k162_32
@[simp] theorem xk162_35 : GoC fns Q s k162_35 st ↔ GoC fns Q (.sq k162_32 :: s) k162_34 st := goC_seq
def k162_36 : ACode :=
  .ops q162_16 k162_35
@[simp] theorem xk162_36 : GoC fns Q s k162_36 st ↔ GoO fns Q s q162_16 k162_35 st := goC_ops
def k162_37 : ACode :=
  .ops q162_17 .ret
@[simp] theorem xk162_37 : GoC fns Q s k162_37 st ↔ GoO fns Q s q162_17 .ret st := goC_ops
def k162_38 : ACode :=
  .cond (.p 15) k162_37 .skip
@[simp] theorem xk162_38 : GoC fns Q s k162_38 st ↔ GB fns Q s (peek st (.p 15)) k162_37 .skip st := goC_cond
def k162_39 : ACode :=
  .seq k162_38 k162_36
@[simp] theorem xk162_39 : GoC fns Q s k162_39 st ↔ GoC fns Q (.sq k162_36 :: s) k162_38 st := goC_seq
def k162_40 : ACode :=
  .ops q162_18 k162_39
@[simp] theorem xk162_40 : GoC fns Q s k162_40 st ↔ GoO fns Q s q162_18 k162_39 st := goC_ops
def k162_41 : ACode :=
  .ops q162_19 k162_40
@[simp] theorem xk162_41 : GoC fns Q s k162_41 st ↔ GoO fns Q s q162_19 k162_40 st := goC_ops
def k162_42 : ACode :=
  .ops [⟨.assign (.c (.nilI)), (some 2), none⟩] k162_41
@[simp] theorem xk162_42 : GoC fns Q s k162_42 st ↔ GoO fns Q s [⟨.assign (.c (.nilI)), (some 2), none⟩] k162_41 st := goC_ops
def af162 : AFunc := ⟨76, k162_42, [.tmp 2], fun _ _ => none⟩

theorem ok162 : ∃ hs, pFunc Tryz.prog sg hs Tryz.f162 = some af162 := ⟨fun i => 0, by kernel_rfl⟩
def q59_0 : List AOper :=
  [⟨.move .look (.t 0), (some 3), none⟩,
    ⟨.call 162 [(.t 3, false)], (some 4), none⟩,
    ⟨.hcall 65 [(.p 4, false)], (some 5), none⟩,
    ⟨.assign (.p 5), (some 2), none⟩]
@[simp] def eq59_0 := id q59_0.eq_1
def k59_0 : ACode :=
  .ops q59_0 .ret
@[simp] theorem xk59_0 : GoC fns Q s k59_0 st ↔ GoO fns Q s q59_0 .ret st := goC_ops
def k59_1 : ACode :=
  .ops [⟨.assign (.c (.int .i64 0)), (some 2), none⟩] k59_0
@[simp] theorem xk59_1 : GoC fns Q s k59_1 st ↔ GoO fns Q s [⟨.assign (.c (.int .i64 0)), (some 2), none⟩] k59_0 st := goC_ops
def af59 : AFunc := ⟨6, k59_1, [.tmp 2], fun _ _ => none⟩

theorem ok59 : ∃ hs, pFunc Tryz.prog sg hs Tryz.f59 = some af59 := ⟨fun i => 0, by kernel_rfl⟩
def q14_0 : List AOper :=
  [⟨.move .look (.t 1), (some 23), none⟩,
    ⟨.convBS (.t 23), (some 24), none⟩,
    ⟨.bin .eql 2 true (.p 24) (.c (.str [12, 0, 0, 0, 16, 97, 0, 7, 0, 0, 0, 0])), (some 25), none⟩,
    ⟨.move .look (.p 25), (some 26), none⟩,
    ⟨.move .look (.p 4), (some 27), (some (26, true))⟩,
    ⟨.pick (.p 26) (.p 27) (.c (.bool false)), (some 28), none⟩,
    ⟨.move .look (.p 28), (some 29), none⟩,
    ⟨.fieldAddr 3 (.p 2), (some 30), (some (29, true))⟩,
    ⟨.load .head false 1 (.p 30), (some 31), (some (29, true))⟩,
    ⟨.bin .eql 1 true (.p 31) (.c (.int .i64 7)), (some 32), (some (29, true))⟩,
    ⟨.pick (.p 29) (.p 32) (.c (.bool false)), (some 33), none⟩,
    ⟨.move .look (.p 33), (some 34), none⟩,
    ⟨.move .head (.t 3), (some 35), (some (34, true))⟩,
    ⟨.len false (.p 35), (some 36), (some (34, true))⟩,
    ⟨.bin .eql 1 true (.p 36) (.c (.int .i64 1)), (some 37), (some (34, true))⟩,
    ⟨.pick (.p 34) (.p 37) (.c (.bool false)), (some 38), none⟩,
    ⟨.move .look (.p 38), (some 39), none⟩,
    ⟨.move .head (.p 6), (some 40), (some (39, true))⟩,
    ⟨.bin .eql 1 true (.p 40) (.c (.int .i64 0)), (some 41), (some (39, true))⟩,
    ⟨.pick (.p 39) (.p 41) (.c (.bool false)), (some 42), none⟩,
    ⟨.move .look (.p 42), (some 43), none⟩,
    ⟨.fieldAddr 0 (.p 5), (some 44), (some (43, true))⟩,
    ⟨.load .head false 1 (.p 44), (some 45), (some (43, true))⟩,
    ⟨.bin .eql 1 true (.p 45) (.c (.int .i64 16)), (some 46), (some (43, true))⟩,
    ⟨.pick (.p 43) (.p 46) (.c (.bool false)), (some 47), none⟩,
    ⟨.move .look (.p 47), (some 48), none⟩,
    ⟨.fieldAddr 1 (.p 5), (some 49), (some (48, true))⟩,
    ⟨.load .head false 1 (.p 49), (some 50), (some (48, true))⟩,
    ⟨.len false (.p 50), (some 51), (some (48, true))⟩,
    ⟨.bin .eql 1 true (.p 51) (.c (.int .i64 4)), (some 52), (some (48, true))⟩,
    ⟨.pick (.p 48) (.p 52) (.c (.bool false)), (some 53), none⟩,
    ⟨.move .look (.p 53), (some 54), none⟩,
    ⟨.move .look (.t 1), (some 55), (some (54, true))⟩,
    ⟨.sliceSl 1 (.t 55) none (some (.c (.int .i64 11))), (some 56), (some (54, true))⟩,
    ⟨.call 59 [(.t 56, false)], (some 57), (some (54, true))⟩,
    ⟨.bin .neq 1 true (.p 57) (.c (.int .i64 0)), (some 58), (some (54, true))⟩,
    ⟨.pick (.p 54) (.p 58) (.c (.bool false)), (some 59), none⟩,
    ⟨.assign (.p 59), (some 0), none⟩]
@[simp] def eq14_0 := id q14_0.eq_1
def q14_1 : List AOper :=
  [⟨.move .look (.t 1), (some 18), none⟩,
    ⟨.buildSl 9 1 [.str []] [(0, 1, .c (.str [97]))], (some 19), none⟩,
    ⟨.call 58 [(.t 18, false), (.t 19, false)], (some 20), none⟩,
    ⟨.move .look (.t 20), (some 17), none⟩,
    ⟨.extract 17 0, (some 21), none⟩,
    ⟨.extract 17 1, (some 22), none⟩,
    ⟨.newbox 5 [.int .i64 0, .slice .nil 0 1 []], (some 5), none⟩,
    ⟨.store 2 (.p 5) (.p 21), none, none⟩,
    ⟨.assign (.p 22), (some 6), none⟩]
@[simp] def eq14_1 := id q14_1.eq_1
def q14_2 : List AOper :=
  [⟨.buildSl 5 1 [.int .u8 0, .int .u8 0, .int .u8 0, .int .u8 0, .int .u8 0] [(0, 1, .c (.int .u8 7)), (1, 1, .c (.int .u8 0)), (2, 1, .c (.int .u8 0)), (3, 1, .c (.int .u8 0)), (4, 1, .c (.int .u8 9))], (some 12), none⟩,
    ⟨.call 57 [(.c (.int .i64 16), false), (.t 12, false)], (some 13), none⟩,
    ⟨.move .look (.t 13), (some 11), none⟩,
    ⟨.extract 11 0, (some 14), none⟩,
    ⟨.extract 11 1, (some 15), none⟩,
    ⟨.extract 11 2, (some 16), none⟩,
    ⟨.newbox 2 [.int .i64 0, .str [], .str [], .int .i64 0, .int .u64 0, .int .u64 0, .slice .nil 0 1 [], .slice .nil 0 1 []], (some 2), none⟩,
    ⟨.store 8 (.p 2) (.p 14), none, none⟩,
    ⟨.assign (.t 15), (some 3), none⟩,
    ⟨.assign (.p 16), (some 4), none⟩]
@[simp] def eq14_2 := id q14_2.eq_1
def q14_3 : List AOper :=
  [⟨.build [.int .i64 0, .str [], .str [], .int .i64 0, .int .u64 0, .int .u64 0, .slice .nil 0 1 [], .slice .nil 0 1 []] [(0, 1, .c (.int .i64 16)), (3, 1, .c (.int .i64 7))], (some 7), none⟩,
    ⟨.build [.str [], .int .i64 0, .str [], .str [], .int .i64 0, .int .u64 0, .int .u64 0, .slice .nil 0 1 [], .slice .nil 0 1 []] [(0, 1, .c (.str [97])), (1, 8, .p 7)], (some 8), none⟩,
    ⟨.buildSl 66 9 [.str [], .int .i64 0, .str [], .str [], .int .i64 0, .int .u64 0, .int .u64 0, .slice .nil 0 1 [], .slice .nil 0 1 []] [(0, 9, .p 8)], (some 9), none⟩,
    ⟨.call 56 [(.t 9, false)], (some 10), none⟩,
    ⟨.assign (.t 10), (some 1), none⟩]
@[simp] def eq14_3 := id q14_3.eq_1
def k14_0 : ACode :=
  .ops q14_0 .ret
@[simp] theorem xk14_0 : GoC fns Q s k14_0 st ↔ GoO fns Q s q14_0 .ret st := goC_ops
def k14_1 : ACode :=
  .ops q14_1 k14_0
@[simp] theorem xk14_1 : GoC fns Q s k14_1 st ↔ GoO fns Q s q14_1 k14_0 st := goC_ops
def k14_2 : ACode :=
  .ops q14_2 k14_1
@[simp] theorem xk14_2 : GoC fns Q s k14_2 st ↔ GoO fns Q s q14_2 k14_1 st := goC_ops
def k14_3 : ACode :=
  .ops q14_3 k14_2
@[simp] theorem xk14_3 : GoC fns Q s k14_3 st ↔ GoO fns Q s q14_3 k14_2 st := goC_ops
def k14_4 : ACode :=
  .ops [⟨.assign (.c (.bool false)), (some 0), none⟩] k14_3
@[simp] theorem xk14_4 : GoC fns Q s k14_4 st ↔ GoO fns Q s [⟨.assign (.c (.bool false)), (some 0), none⟩] k14_3 st := goC_ops
def af14 : AFunc := ⟨60, k14_4, [.tmp 0], fun _ _ => none⟩

theorem ok14 : ∃ hs, pFunc Tryz.prog sg hs Tryz.f14 = some af14 := ⟨fun i => 0, by kernel_rfl⟩
def q8_0 : List AOper :=
  [⟨.call 14 [], (some 181), none⟩,
    ⟨.assign (.p 181), (some 4), none⟩]
@[simp] def eq8_0 := id q8_0.eq_1
def q8_1 : List AOper :=
  [⟨.move .look (.p 12), (some 77), none⟩,
    ⟨.bin .add 1 true (.p 77) (.c (.int .i64 1)), (some 78), none⟩,
    ⟨.assign (.p 78), (some 12), none⟩]
@[simp] def eq8_1 := id q8_1.eq_1
def q8_2 : List AOper :=
  [⟨.move .look (.p 11), (some 161), none⟩,
    ⟨.bin .add 1 true (.p 161) (.c (.int .i64 1)), (some 162), none⟩,
    ⟨.assign (.p 162), (some 11), none⟩]
@[simp] def eq8_2 := id q8_2.eq_1
def q8_3 : List AOper :=
  [⟨.fieldAddr 10 (.p 13), (some 134), none⟩,
    ⟨.load .head false 1 (.p 134), (some 135), none⟩,
    ⟨.bin .neq 1 true (.p 135) (.c (.int .i64 0)), (some 136), none⟩,
    ⟨.move .look (.p 136), (some 137), none⟩,
    ⟨.fieldAddr 2 (.p 13), (some 138), (some (137, false))⟩,
    ⟨.fieldAddr 0 (.p 138), (some 139), (some (137, false))⟩,
    ⟨.load .head false 1 (.p 139), (some 140), (some (137, false))⟩,
    ⟨.move .look (.t 0), (some 141), (some (137, false))⟩,
    ⟨.move .look (.p 11), (some 142), (some (137, false))⟩,
    ⟨.indexAddr 8 (.t 141) (.p 142), (some 143), (some (137, false))⟩,
    ⟨.fieldAddr 0 (.p 143), (some 144), (some (137, false))⟩,
    ⟨.load .head false 1 (.p 144), (some 145), (some (137, false))⟩,
    ⟨.bin .neq 1 false (.p 140) (.p 145), (some 146), (some (137, false))⟩,
    ⟨.pick (.p 137) (.c (.bool true)) (.p 146), (some 147), none⟩,
    ⟨.move .look (.p 147), (some 148), none⟩,
    ⟨.fieldAddr 2 (.p 13), (some 149), (some (148, false))⟩,
    ⟨.fieldAddr 6 (.p 149), (some 150), (some (148, false))⟩,
    ⟨.load .look false 1 (.p 150), (some 151), (some (148, false))⟩,
    ⟨.convBS (.t 151), (some 152), (some (148, false))⟩,
    ⟨.move .look (.t 0), (some 153), (some (148, false))⟩,
    ⟨.move .look (.p 11), (some 154), (some (148, false))⟩,
    ⟨.indexAddr 8 (.t 153) (.p 154), (some 155), (some (148, false))⟩,
    ⟨.load .look true 8 (.p 155), (some 156), (some (148, false))⟩,
    ⟨.call 26 [(.p 156, false)], (some 157), (some (148, false))⟩,
    ⟨.convBS (.t 157), (some 158), (some (148, false))⟩,
    ⟨.bin .neq 2 false (.p 152) (.p 158), (some 159), (some (148, false))⟩,
    ⟨.pick (.p 148) (.c (.bool true)) (.p 159), (some 160), none⟩]
@[simp] def eq8_3 := id q8_3.eq_1
def q8_4 : List AOper :=
  [⟨.fieldAddr 10 (.p 13), (some 131), none⟩,
    ⟨.load .head false 1 (.p 131), (some 132), none⟩,
    ⟨.bin .neq 1 true (.p 132) (.c (.int .i64 11)), (some 133), none⟩]
@[simp] def eq8_4 := id q8_4.eq_1
def q8_5 : List AOper :=
  [⟨.move .look (.p 11), (some 127), none⟩,
    ⟨.move .head (.t 0), (some 128), none⟩,
    ⟨.len false (.p 128), (some 129), none⟩,
    ⟨.bin .geq 1 false (.p 127) (.p 129), (some 130), none⟩]
@[simp] def eq8_5 := id q8_5.eq_1
def q8_6 : List AOper :=
  [⟨.fieldAddr 11 (.p 13), (some 167), none⟩,
    ⟨.load .head false 1 (.p 167), (some 168), none⟩,
    ⟨.move .head (.t 0), (some 169), none⟩,
    ⟨.len false (.p 169), (some 170), none⟩,
    ⟨.bin .neq 1 false (.p 168) (.p 170), (some 171), none⟩]
@[simp] def eq8_6 := id q8_6.eq_1
def q8_7 : List AOper :=
  [⟨.fieldAddr 11 (.p 13), (some 174), none⟩,
    ⟨.load .head false 1 (.p 174), (some 175), none⟩,
    ⟨.bin .eql 1 true (.p 175) (.c (.int .i64 1)), (some 176), none⟩,
    ⟨.move .head (.t 0), (some 177), none⟩,
    ⟨.len false (.p 177), (some 178), none⟩,
    ⟨.bin .eql 1 true (.p 178) (.c (.int .i64 0)), (some 179), none⟩,
    ⟨.bin .neq 0 false (.p 176) (.p 179), (some 180), none⟩]
@[simp] def eq8_7 := id q8_7.eq_1
def q8_8 : List AOper :=
  [⟨.move .look (.p 14), (some 110), none⟩,
    ⟨.bin .add 1 true (.p 110) (.c (.int .i64 1)), (some 111), none⟩,
    ⟨.assign (.p 111), (some 14), none⟩]
@[simp] def eq8_8 := id q8_8.eq_1
def q8_9 : List AOper :=
  [⟨.fieldAddr 12 (.p 13), (some 112), none⟩,
    ⟨.load .look false 1 (.p 112), (some 113), none⟩,
    ⟨.move .look (.p 14), (some 114), none⟩,
    ⟨.indexAddr 1 (.t 113) (.p 114), (some 115), none⟩,
    ⟨.load .look false 1 (.p 115), (some 116), none⟩,
    ⟨.convBS (.t 116), (some 117), none⟩,
    ⟨.move .look (.t 0), (some 118), none⟩,
    ⟨.move .look (.p 14), (some 119), none⟩,
    ⟨.indexAddr 8 (.t 118) (.p 119), (some 120), none⟩,
    ⟨.load .look true 8 (.p 120), (some 121), none⟩,
    ⟨.call 26 [(.p 121, false)], (some 122), none⟩,
    ⟨.convBS (.t 122), (some 123), none⟩,
    ⟨.bin .neq 2 false (.p 117) (.p 123), (some 124), none⟩]
@[simp] def eq8_9 := id q8_9.eq_1
def q8_10 : List AOper :=
  [⟨.move .look (.p 8), (some 103), none⟩,
    ⟨.move .look (.p 103), (some 104), none⟩,
    ⟨.move .look (.p 14), (some 105), (some (104, true))⟩,
    ⟨.move .head (.t 0), (some 106), (some (104, true))⟩,
    ⟨.len false (.p 106), (some 107), (some (104, true))⟩,
    ⟨.bin .lss 1 false (.p 105) (.p 107), (some 108), (some (104, true))⟩,
    ⟨.pick (.p 104) (.p 108) (.c (.bool false)), (some 109), none⟩]
@[simp] def eq8_10 := id q8_10.eq_1
def q8_11 : List AOper :=
  [⟨.fieldAddr 10 (.p 13), (some 87), none⟩,
    ⟨.load .head false 1 (.p 87), (some 88), none⟩,
    ⟨.bin .eql 1 true (.p 88) (.c (.int .i64 0)), (some 89), none⟩,
    ⟨.move .head (.p 8), (some 90), none⟩,
    ⟨.bin .neq 0 false (.p 89) (.p 90), (some 91), none⟩,
    ⟨.move .look (.p 91), (some 92), none⟩,
    ⟨.move .look (.p 8), (some 93), (some (92, false))⟩,
    ⟨.move .look (.p 93), (some 94), (some (92, false))⟩,
    ⟨.fieldAddr 12 (.p 13), (some 95), (some (94, true))⟩,
    ⟨.load .head false 1 (.p 95), (some 96), (some (94, true))⟩,
    ⟨.len false (.p 96), (some 97), (some (94, true))⟩,
    ⟨.move .head (.t 0), (some 98), (some (94, true))⟩,
    ⟨.len false (.p 98), (some 99), (some (94, true))⟩,
    ⟨.bin .neq 1 false (.p 97) (.p 99), (some 100), (some (94, true))⟩,
    ⟨.pick (.p 94) (.p 100) (.c (.bool false)), (some 101), (some (92, false))⟩,
    ⟨.pick (.p 92) (.c (.bool true)) (.p 101), (some 102), none⟩]
@[simp] def eq8_11 := id q8_11.eq_1
def q8_12 : List AOper :=
  [⟨.bin .eql 1 true (.p 86) (.c (.int .i64 3)), (some 173), none⟩,
    ⟨.assign (.p 173), (some 172), none⟩]
@[simp] def eq8_12 := id q8_12.eq_1
def q8_13 : List AOper :=
  [⟨.bin .eql 1 true (.p 86) (.c (.int .i64 2)), (some 166), none⟩,
    ⟨.assign (.p 166), (some 165), none⟩]
@[simp] def eq8_13 := id q8_13.eq_1
def q8_14 : List AOper :=
  [⟨.bin .eql 1 true (.p 86) (.c (.int .i64 1)), (some 164), none⟩,
    ⟨.assign (.p 164), (some 163), none⟩]
@[simp] def eq8_14 := id q8_14.eq_1
def q8_15 : List AOper :=
  [⟨.bin .eql 1 true (.p 86) (.c (.int .i64 0)), (some 126), none⟩,
    ⟨.assign (.p 126), (some 125), none⟩]
@[simp] def eq8_15 := id q8_15.eq_1
def q8_16 : List AOper :=
  [⟨.move .look (.t 6), (some 83), none⟩,
    ⟨.move .look (.p 12), (some 84), none⟩,
    ⟨.indexAddr 1 (.t 83) (.p 84), (some 85), none⟩,
    ⟨.load .head false 1 (.p 85), (some 86), none⟩]
@[simp] def eq8_16 := id q8_16.eq_1
def q8_17 : List AOper :=
  [⟨.move .look (.t 10), (some 79), none⟩,
    ⟨.move .look (.p 12), (some 80), none⟩,
    ⟨.indexAddr 13 (.t 79) (.p 80), (some 81), none⟩,
    ⟨.load .take true 13 (.p 81), (some 82), none⟩,
    ⟨.newbox 13 [.int .i64 0, .str [], .int .i64 0, .str [], .str [], .int .i64 0, .int .u64 0, .int .u64 0, .slice .nil 0 1 [], .slice .nil 0 1 [], .int .i64 0, .int .i64 0, .slice .nil 0 1 []], (some 13), none⟩,
    ⟨.store 13 (.p 13) (.p 82), none, none⟩]
@[simp] def eq8_17 := id q8_17.eq_1
def q8_18 : List AOper :=
  [⟨.move .look (.p 12), (some 73), none⟩,
    ⟨.move .head (.t 6), (some 74), none⟩,
    ⟨.len false (.p 74), (some 75), none⟩,
    ⟨.bin .lss 1 false (.p 73) (.p 75), (some 76), none⟩]
@[simp] def eq8_18 := id q8_18.eq_1
def q8_19 : List AOper :=
  [⟨.move .head (.t 10), (some 68), none⟩,
    ⟨.len false (.p 68), (some 69), none⟩,
    ⟨.move .head (.t 6), (some 70), none⟩,
    ⟨.len false (.p 70), (some 71), none⟩,
    ⟨.bin .neq 1 false (.p 69) (.p 71), (some 72), none⟩]
@[simp] def eq8_19 := id q8_19.eq_1
def q8_20 : List AOper :=
  [⟨.fieldAddr 7 (.p 5), (some 63), none⟩,
    ⟨.load .look false 1 (.p 63), (some 64), none⟩,
    ⟨.call 24 [(.t 64, false)], (some 65), none⟩,
    ⟨.move .look (.t 6), (some 66), none⟩,
    ⟨.call 34 [(.t 65, false), (.t 66, false)], (some 67), none⟩,
    ⟨.assign (.t 67), (some 10), none⟩]
@[simp] def eq8_20 := id q8_20.eq_1
def q8_21 : List AOper :=
  [⟨.move .look (.p 9), (some 52), none⟩,
    ⟨.bin .add 1 true (.p 52) (.c (.int .i64 1)), (some 53), none⟩,
    ⟨.assign (.p 53), (some 9), none⟩]
@[simp] def eq8_21 := id q8_21.eq_1
def q8_22 : List AOper :=
  [⟨.move .look (.p 8), (some 54), none⟩,
    ⟨.move .look (.p 54), (some 55), none⟩,
    ⟨.move .look (.t 0), (some 56), (some (55, true))⟩,
    ⟨.move .look (.p 9), (some 57), (some (55, true))⟩,
    ⟨.indexAddr 8 (.t 56) (.p 57), (some 58), (some (55, true))⟩,
    ⟨.fieldAddr 0 (.p 58), (some 59), (some (55, true))⟩,
    ⟨.load .head false 1 (.p 59), (some 60), (some (55, true))⟩,
    ⟨.bin .eql 1 true (.p 60) (.c (.int .i64 3)), (some 61), (some (55, true))⟩,
    ⟨.pick (.p 55) (.p 61) (.c (.bool false)), (some 62), none⟩,
    ⟨.assign (.p 62), (some 8), none⟩]
@[simp] def eq8_22 := id q8_22.eq_1
def q8_23 : List AOper :=
  [⟨.move .look (.p 9), (some 48), none⟩,
    ⟨.move .head (.t 0), (some 49), none⟩,
    ⟨.len false (.p 49), (some 50), none⟩,
    ⟨.bin .lss 1 false (.p 48) (.p 50), (some 51), none⟩]
@[simp] def eq8_23 := id q8_23.eq_1
def q8_24 : List AOper :=
  [⟨.move .look (.p 7), (some 37), none⟩,
    ⟨.bin .add 1 true (.p 37) (.c (.int .i64 1)), (some 38), none⟩,
    ⟨.assign (.p 38), (some 7), none⟩]
@[simp] def eq8_24 := id q8_24.eq_1
def q8_25 : List AOper :=
  [⟨.move .take (.t 6), (some 39), none⟩,
    ⟨.move .look (.t 1), (some 40), none⟩,
    ⟨.move .look (.p 7), (some 41), none⟩,
    ⟨.indexAddr 1 (.t 40) (.p 41), (some 42), none⟩,
    ⟨.load .look false 1 (.p 42), (some 43), none⟩,
    ⟨.convInt .i64 (.p 43), (some 44), none⟩,
    ⟨.bin .rem 1 true (.p 44) (.c (.int .i64 5)), (some 45), none⟩,
    ⟨.buildSl 3 1 [.int .i64 0] [(0, 1, .p 45)], (some 46), none⟩,
    ⟨.append 3 1 8 false (.t 39) (.p 46), (some 47), none⟩,
    ⟨.assign (.t 47), (some 6), none⟩]
@[simp] def eq8_25 := id q8_25.eq_1
def q8_26 : List AOper :=
  [⟨.move .look (.p 7), (some 33), none⟩,
    ⟨.move .head (.t 1), (some 34), none⟩,
    ⟨.len false (.p 34), (some 35), none⟩,
    ⟨.bin .lss 1 false (.p 33) (.p 35), (some 36), none⟩]
@[simp] def eq8_26 := id q8_26.eq_1
def q8_27 : List AOper :=
  [⟨.load .look true 8 (.p 5), (some 25), none⟩,
    ⟨.call 23 [(.p 25, false)], (some 26), none⟩,
    ⟨.un .not (.p 26), (some 27), none⟩,
    ⟨.move .look (.p 27), (some 28), none⟩,
    ⟨.move .head (.t 1), (some 29), (some (28, false))⟩,
    ⟨.len false (.p 29), (some 30), (some (28, false))⟩,
    ⟨.bin .gtr 1 true (.p 30) (.c (.int .i64 100)), (some 31), (some (28, false))⟩,
    ⟨.pick (.p 28) (.c (.bool true)) (.p 31), (some 32), none⟩]
@[simp] def eq8_27 := id q8_27.eq_1
def q8_28 : List AOper :=
  [⟨.move .look (.t 0), (some 23), none⟩,
    ⟨.call 22 [(.t 23, false)], (some 24), none⟩,
    ⟨.newbox 5 [.int .i64 0, .str [], .str [], .int .i64 0, .int .u64 0, .int .u64 0, .slice .nil 0 1 [], .slice .nil 0 1 []], (some 5), none⟩,
    ⟨.store 8 (.p 5) (.p 24), none, none⟩]
@[simp] def eq8_28 := id q8_28.eq_1
def q8_29 : List AOper :=
  [⟨.move .head (.t 0), (some 15), none⟩,
    ⟨.len false (.p 15), (some 16), none⟩,
    ⟨.bin .gtr 1 true (.p 16) (.c (.int .i64 2147483647)), (some 17), none⟩,
    ⟨.move .look (.p 17), (some 18), none⟩,
    ⟨.move .head (.t 1), (some 19), (some (18, false))⟩,
    ⟨.len false (.p 19), (some 20), (some (18, false))⟩,
    ⟨.bin .gtr 1 true (.p 20) (.c (.int .i64 2147483647)), (some 21), (some (18, false))⟩,
    ⟨.pick (.p 18) (.c (.bool true)) (.p 21), (some 22), none⟩]
@[simp] def eq8_29 := id q8_29.eq_1
def k8_0 : ACode :=
  .ops q8_0 .ret
@[simp] theorem xk8_0 : GoC fns Q s k8_0 st ↔ GoO fns Q s q8_0 .ret st := goC_ops
def k8_1 : ACode :=
  .ops q8_1 .skip
@[simp] theorem xk8_1 : GoC fns Q s k8_1 st ↔ GoO fns Q s q8_1 .skip st := goC_ops
def k8_2 : ACode :=
  .ops q8_2 .skip
@[simp] theorem xk8_2 : GoC fns Q s k8_2 st ↔ GoO fns Q s q8_2 .skip st := goC_ops
def k8_3 : ACode :=
  .ops [⟨.assign (.c (.bool false)), (some 4), none⟩] .ret
@[simp] theorem xk8_3 : GoC fns Q s k8_3 st ↔ GoO fns Q s [⟨.assign (.c (.bool false)), (some 4), none⟩] .ret st := goC_ops
def k8_4 : ACode :=
  .cond (.p 160) k8_3 .skip
@[simp] theorem xk8_4 : GoC fns Q s k8_4 st ↔ GB fns Q s (peek st (.p 160)) k8_3 .skip st := goC_cond
def k8_5 : ACode :=
  .seq k8_4 k8_2
@[simp] theorem xk8_5 : GoC fns Q s k8_5 st ↔ GoC fns Q (.sq k8_2 :: s) k8_4 st := goC_seq
def k8_6 : ACode :=
  .ops q8_3 k8_5
@[simp] theorem xk8_6 : GoC fns Q s k8_6 st ↔ GoO fns Q s q8_3 k8_5 st := goC_ops
def k8_7 : ACode :=
  .ops [⟨.assign (.c (.bool false)), (some 4), none⟩] .ret
@[simp] theorem xk8_7 : GoC fns Q s k8_7 st ↔ GoO fns Q s [⟨.assign (.c (.bool false)), (some 4), none⟩] .ret st := goC_ops
def k8_8 : ACode :=
  .cond (.p 133) k8_7 .skip
@[simp] theorem xk8_8 : GoC fns Q s k8_8 st ↔ GB fns Q s (peek st (.p 133)) k8_7 .skip st := goC_cond
def k8_9 : ACode :=
  .seq k8_8 (.exit 5)
@[simp] theorem xk8_9 : GoC fns Q s k8_9 st ↔ GoC fns Q (.sq (.exit 5) :: s) k8_8 st := goC_seq
def k8_10 : ACode :=
  .ops q8_4 k8_9
@[simp] theorem xk8_10 : GoC fns Q s k8_10 st ↔ GoO fns Q s q8_4 k8_9 st := goC_ops
def k8_11 : ACode :=
  .cond (.p 130) k8_10 .skip
@[simp] theorem xk8_11 : GoC fns Q s k8_11 st ↔ GB fns Q s (peek st (.p 130)) k8_10 .skip st := goC_cond
def k8_12 : ACode :=
  .seq k8_11 k8_6
@[simp] theorem xk8_12 : GoC fns Q s k8_12 st ↔ GoC fns Q (.sq k8_6 :: s) k8_11 st := goC_seq
def k8_13 : ACode :=
  .ops q8_5 k8_12
@[simp] theorem xk8_13 : GoC fns Q s k8_13 st ↔ GoO fns Q s q8_5 k8_12 st := goC_ops
def k8_14 : ACode :=
  .ops [⟨.assign (.c (.int .i64 0)), (some 11), none⟩] .skip
@[simp] theorem xk8_14 : GoC fns Q s k8_14 st ↔ GoO fns Q s [⟨.assign (.c (.int .i64 0)), (some 11), none⟩] .skip st := goC_ops
def k8_15 : ACode :=
  .ops [⟨.assign (.c (.bool false)), (some 4), none⟩] .ret
@[simp] theorem xk8_15 : GoC fns Q s k8_15 st ↔ GoO fns Q s [⟨.assign (.c (.bool false)), (some 4), none⟩] .ret st := goC_ops
def k8_16 : ACode :=
  .cond (.p 171) k8_15 .skip
@[simp] theorem xk8_16 : GoC fns Q s k8_16 st ↔ GB fns Q s (peek st (.p 171)) k8_15 .skip st := goC_cond
def k8_17 : ACode :=
  .ops q8_6 k8_16
@[simp] theorem xk8_17 : GoC fns Q s k8_17 st ↔ GoO fns Q s q8_6 k8_16 st := goC_ops
def k8_18 : ACode :=
  .ops [⟨.assign (.c (.bool false)), (some 4), none⟩] .ret
@[simp] theorem xk8_18 : GoC fns Q s k8_18 st ↔ GoO fns Q s [⟨.assign (.c (.bool false)), (some 4), none⟩] .ret st := goC_ops
def k8_19 : ACode :=
  .cond (.p 180) k8_18 .skip
@[simp] theorem xk8_19 : GoC fns Q s k8_19 st ↔ GB fns Q s (peek st (.p 180)) k8_18 .skip st := goC_cond
def k8_20 : ACode :=
  .ops q8_7 k8_19
@[simp] theorem xk8_20 : GoC fns Q s k8_20 st ↔ GoO fns Q s q8_7 k8_19 st := goC_ops
def k8_21 : ACode :=
  .ops q8_8 .skip
@[simp] theorem xk8_21 : GoC fns Q s k8_21 st ↔ GoO fns Q s q8_8 .skip st := goC_ops
def k8_22 : ACode :=
  .ops [⟨.assign (.c (.bool false)), (some 4), none⟩] .ret
@[simp] theorem xk8_22 : GoC fns Q s k8_22 st ↔ GoO fns Q s [⟨.assign (.c (.bool false)), (some 4), none⟩] .ret st := goC_ops
def k8_23 : ACode :=
  .cond (.p 124) k8_22 .skip
@[simp] theorem xk8_23 : GoC fns Q s k8_23 st ↔ GB fns Q s (peek st (.p 124)) k8_22 .skip st := goC_cond
def k8_24 : ACode :=
  .ops q8_9 k8_23
@[simp] theorem xk8_24 : GoC fns Q s k8_24 st ↔ GoO fns Q s q8_9 k8_23 st := goC_ops
def k8_25 : ACode :=
  .block 8 k8_24
@[simp] theorem xk8_25 : GoC fns Q s k8_25 st ↔ GoC fns Q (.bl 8 :: s) k8_24 st := goC_block
def k8_26 : ACode :=
  .seq k8_25 k8_21
@[simp] theorem xk8_26 : GoC fns Q s k8_26 st ↔ GoC fns Q (.sq k8_21 :: s) k8_25 st := goC_seq
def k8_27 : ACode :=
  .cond (.p 109) .skip (.exit 7)
@[simp] theorem xk8_27 : GoC fns Q s k8_27 st ↔ GB fns Q s (peek st (.p 109)) .skip (.exit 7) st := goC_cond
def k8_28 : ACode :=
  .seq k8_27 k8_26
@[simp] theorem xk8_28 : GoC fns Q s k8_28 st ↔ GoC fns Q (.sq k8_26 :: s) k8_27 st := goC_seq
def k8_29 : ACode :=
  .ops q8_10 k8_28
@[simp] theorem xk8_29 : GoC fns Q s k8_29 st ↔ GoO fns Q s q8_10 k8_28 st := goC_ops
def lc8_0 : ACode :=
  k8_29
@[simp] theorem xlc8_0 : GoC fns Q s lc8_0 st ↔ GoC fns Q s k8_29 st := Iff.rfl
def k8_31 : ACode :=
  .loop lc8_0
@[simp] theorem xk8_31 : GoC fns Q s k8_31 st ↔ (LoopR fns lc8_0 st fun r => GoE fns Q s r.1 r.2) := goC_loop
def k8_32 : ACode :=
  .block 7 k8_31
@[simp] theorem xk8_32 : GoC fns Q s k8_32 st ↔ GoC fns Q (.bl 7 :: s) k8_31 st := goC_block
def k8_33 : ACode :=
  .ops [⟨.assign (.c (.int .i64 0)), (some 14), none⟩] k8_32
@[simp] theorem xk8_33 : GoC fns Q s k8_33 st ↔ GoO fns Q s [⟨.assign (.c (.int .i64 0)), (some 14), none⟩] k8_32 st := goC_ops
def k8_34 : ACode :=
  .ops [⟨.assign (.c (.bool false)), (some 4), none⟩] .ret
@[simp] theorem xk8_34 : GoC fns Q s k8_34 st ↔ GoO fns Q s [⟨.assign (.c (.bool false)), (some 4), none⟩] .ret st := goC_ops
def k8_35 : ACode :=
  .cond (.p 102) k8_34 .skip
@[simp] theorem xk8_35 : GoC fns Q s k8_35 st ↔ GB fns Q s (peek st (.p 102)) k8_34 .skip st := goC_cond
def k8_36 : ACode :=
  .seq k8_35 k8_33
@[simp] theorem xk8_36 : GoC fns Q s k8_36 st ↔ GoC fns Q (.sq k8_33 :: s) k8_35 st := goC_seq
def k8_37 : ACode :=
  .ops q8_11 k8_36
@[simp] theorem xk8_37 : GoC fns Q s k8_37 st ↔ GoO fns Q s q8_11 k8_36 st := goC_ops
def k8_38 : ACode :=
  .cond (.p 172) k8_20 k8_37
@[simp] theorem xk8_38 : GoC fns Q s k8_38 st ↔ GB fns Q s (peek st (.p 172)) k8_20 k8_37 st := goC_cond
def k8_39 : ACode :=
  .ops q8_12 k8_38
@[simp] theorem xk8_39 : GoC fns Q s k8_39 st ↔ GoO fns Q s q8_12 k8_38 st := goC_ops
def k8_40 : ACode :=
  .cond (.p 165) k8_17 k8_39
@[simp] theorem xk8_40 : GoC fns Q s k8_40 st ↔ GB fns Q s (peek st (.p 165)) k8_17 k8_39 st := goC_cond
def k8_41 : ACode :=
  .ops q8_13 k8_40
@[simp] theorem xk8_41 : GoC fns Q s k8_41 st ↔ GoO fns Q s q8_13 k8_40 st := goC_ops
def k8_42 : ACode :=
  .cond (.p 163) k8_14 k8_41
@[simp] theorem xk8_42 : GoC fns Q s k8_42 st ↔ GB fns Q s (peek st (.p 163)) k8_14 k8_41 st := goC_cond
def k8_43 : ACode :=
  .ops q8_14 k8_42
@[simp] theorem xk8_43 : GoC fns Q s k8_43 st ↔ GoO fns Q s q8_14 k8_42 st := goC_ops
def k8_44 : ACode :=
  .cond (.p 125) k8_13 k8_43
@[simp] theorem xk8_44 : GoC fns Q s k8_44 st ↔ GB fns Q s (peek st (.p 125)) k8_13 k8_43 st := goC_cond
def k8_45 : ACode :=
  .ops q8_15 k8_44
@[simp] theorem xk8_45 : GoC fns Q s k8_45 st ↔ GoO fns Q s q8_15 k8_44 st := goC_ops
def k8_46 : ACode :=
  .block 6 k8_45
@[simp] theorem xk8_46 : GoC fns Q s k8_46 st ↔ GoC fns Q (.bl 6 :: s) k8_45 st := goC_block
def k8_47 : ACode :=
  .ops q8_16 k8_46
@[simp] theorem xk8_47 : GoC fns Q s k8_47 st ↔ GoO fns Q s q8_16 k8_46 st := goC_ops
def k8_48 : ACode :=
  .ops q8_17 k8_47
@[simp] theorem xk8_48 : GoC fns Q s k8_48 st ↔ GoO fns Q s q8_17 k8_47 st := goC_ops
def k8_49 : ACode :=
  .block 5 k8_48
@[simp] theorem xk8_49 : GoC fns Q s k8_49 st ↔ GoC fns Q (.bl 5 :: s) k8_48 st := goC_block
def k8_50 : ACode :=
  .seq k8_49 k8_1
@[simp] theorem xk8_50 : GoC fns Q s k8_50 st ↔ GoC fns Q (.sq k8_1 :: s) k8_49 st := goC_seq
def k8_51 : ACode :=
  .cond (.p 76) .skip (.exit 4)
@[simp] theorem xk8_51 : GoC fns Q s k8_51 st ↔ GB fns Q s (peek st (.p 76)) .skip (.exit 4) st := goC_cond
def k8_52 : ACode :=
  .seq k8_51 k8_50
@[simp] theorem xk8_52 : GoC fns Q s k8_52 st ↔ GoC fns Q (.sq k8_50 :: s) k8_51 st := goC_seq
def k8_53 : ACode :=
  .ops q8_18 k8_52
@[simp] theorem xk8_53 : GoC fns Q s k8_53 st ↔ GoO fns Q s q8_18 k8_52 st := goC_ops
def lc8_1 : ACode :=
  k8_53
@[simp] theorem xlc8_1 : GoC fns Q s lc8_1 st ↔ GoC fns Q s k8_53 st := Iff.rfl
def k8_55 : ACode :=
  .loop lc8_1
@[simp] theorem xk8_55 : GoC fns Q s k8_55 st ↔ (LoopR fns lc8_1 st fun r => GoE fns Q s r.1 r.2) := goC_loop
def k8_56 : ACode :=
  .block 4 k8_55
@[simp] theorem xk8_56 : GoC fns Q s k8_56 st ↔ GoC fns Q (.bl 4 :: s) k8_55 st := goC_block
def k8_57 : ACode :=
  .seq k8_56 k8_0
@[simp] theorem xk8_57 : GoC fns Q s k8_57 st ↔ GoC fns Q (.sq k8_0 :: s) k8_56 st := goC_seq
def k8_58 : ACode :=
  .ops [⟨.assign (.c (.int .i64 0)), (some 12), none⟩] k8_57
@[simp] theorem xk8_58 : GoC fns Q s k8_58 st ↔ GoO fns Q s [⟨.assign (.c (.int .i64 0)), (some 12), none⟩] k8_57 st := goC_ops
def k8_59 : ACode :=
  .ops [⟨.assign (.c (.int .i64 0)), (some 11), none⟩] k8_58
@[simp] theorem xk8_59 : GoC fns Q s k8_59 st ↔ GoO fns Q s [⟨.assign (.c (.int .i64 0)), (some 11), none⟩] k8_58 st := goC_ops
def k8_60 : ACode :=
  .ops [⟨.assign (.c (.bool false)), (some 4), none⟩] .ret
@[simp] theorem xk8_60 : GoC fns Q s k8_60 st ↔ GoO fns Q s [⟨.assign (.c (.bool false)), (some 4), none⟩] .ret st := goC_ops
def k8_61 : ACode :=
  .cond (.p 72) k8_60 .skip
@[simp] theorem xk8_61 : GoC fns Q s k8_61 st ↔ GB fns Q s (peek st (.p 72)) k8_60 .skip st := goC_cond
def k8_62 : ACode :=
  .seq k8_61 k8_59
@[simp] theorem xk8_62 : GoC fns Q s k8_62 st ↔ GoC fns Q (.sq k8_59 :: s) k8_61 st := goC_seq
def k8_63 : ACode :=
  .ops q8_19 k8_62
@[simp] theorem xk8_63 : GoC fns Q s k8_63 st ↔ GoO fns Q s q8_19 k8_62 st := goC_ops
def k8_64 : ACode :=
  .ops q8_20 k8_63
@[simp] theorem xk8_64 : GoC fns Q s k8_64 st ↔ GoO fns Q s q8_20 k8_63 st := goC_ops
def k8_65 : ACode :=
  .ops q8_21 .skip
@[simp] theorem xk8_65 : GoC fns Q s k8_65 st ↔ GoO fns Q s q8_21 .skip st := goC_ops
def k8_66 : ACode :=
  .ops q8_22 .skip
@[simp] theorem xk8_66 : GoC fns Q s k8_66 st ↔ GoO fns Q s q8_22 .skip st := goC_ops
def k8_67 : ACode :=
  .block 3 k8_66
@[simp] theorem xk8_67 : GoC fns Q s k8_67 st ↔ GoC fns Q (.bl 3 :: s) k8_66 st := goC_block
def k8_68 : ACode :=
  .seq k8_67 k8_65
@[simp] theorem xk8_68 : GoC fns Q s k8_68 st ↔ GoC fns Q (.sq k8_65 :: s) k8_67 st := goC_seq
def k8_69 : ACode :=
  .cond (.p 51) .skip (.exit 2)
@[simp] theorem xk8_69 : GoC fns Q s k8_69 st ↔ GB fns Q s (peek st (.p 51)) .skip (.exit 2) st := goC_cond
def k8_70 : ACode :=
  .seq k8_69 k8_68
@[simp] theorem xk8_70 : GoC fns Q s k8_70 st ↔ GoC fns Q (.sq k8_68 :: s) k8_69 st := goC_seq
def k8_71 : ACode :=
  .ops q8_23 k8_70
@[simp] theorem xk8_71 : GoC fns Q s k8_71 st ↔ GoO fns Q s q8_23 k8_70 st := goC_ops
def lc8_2 : ACode :=
  k8_71
@[simp] theorem xlc8_2 : GoC fns Q s lc8_2 st ↔ GoC fns Q s k8_71 st := Iff.rfl
def k8_73 : ACode :=
  .loop lc8_2
@[simp] theorem xk8_73 : GoC fns Q s k8_73 st ↔ (LoopR fns lc8_2 st fun r => GoE fns Q s r.1 r.2) := goC_loop
def k8_74 : ACode :=
  .block 2 k8_73
@[simp] theorem xk8_74 : GoC fns Q s k8_74 st ↔ GoC fns Q (.bl 2 :: s) k8_73 st := goC_block
def k8_75 : ACode :=
  .seq k8_74 k8_64
@[simp] theorem xk8_75 : GoC fns Q s k8_75 st ↔ GoC fns Q (.sq k8_64 :: s) k8_74 st := goC_seq
def k8_76 : ACode :=
  .ops [⟨.assign (.c (.int .i64 0)), (some 9), none⟩] k8_75
@[simp] theorem xk8_76 : GoC fns Q s k8_76 st ↔ GoO fns Q s [⟨.assign (.c (.int .i64 0)), (some 9), none⟩] k8_75 st := goC_ops
def k8_77 : ACode :=
  .ops [⟨.assign (.c (.bool true)), (some 8), none⟩] k8_76
@[simp] theorem xk8_77 : GoC fns Q s k8_77 st ↔ GoO fns Q s [⟨.assign (.c (.bool true)), (some 8), none⟩] k8_76 st := goC_ops
def k8_78 : ACode :=
  .ops q8_24 .skip
@[simp] theorem xk8_78 : GoC fns Q s k8_78 st ↔ GoO fns Q s q8_24 .skip st := goC_ops
def k8_79 : ACode :=
  .ops q8_25 .skip
@[simp] theorem xk8_79 : GoC fns Q s k8_79 st ↔ GoO fns Q s q8_25 .skip st := goC_ops
def k8_80 : ACode :=
  .block 1 k8_79
@[simp] theorem xk8_80 : GoC fns Q s k8_80 st ↔ GoC fns Q (.bl 1 :: s) k8_79 st := goC_block
def k8_81 : ACode :=
  .seq k8_80 k8_78
@[simp] theorem xk8_81 : GoC fns Q s k8_81 st ↔ GoC fns Q (.sq k8_78 :: s) k8_80 st := goC_seq
def k8_82 : ACode :=
  .cond (.p 36) .skip (.exit 0)
@[simp] theorem xk8_82 : GoC fns Q s k8_82 st ↔ GB fns Q s (peek st (.p 36)) .skip (.exit 0) st := goC_cond
def k8_83 : ACode :=
  .seq k8_82 k8_81
@[simp] theorem xk8_83 : GoC fns Q s k8_83 st ↔ GoC fns Q (.sq k8_81 :: s) k8_82 st := goC_seq
def k8_84 : ACode :=
  .ops q8_26 k8_83
@[simp] theorem xk8_84 : GoC fns Q s k8_84 st ↔ GoO fns Q s q8_26 k8_83 st := goC_ops
def lc8_3 : ACode :=
  k8_84
@[simp] theorem xlc8_3 : GoC fns Q s lc8_3 st ↔ GoC fns Q s k8_84 st := Iff.rfl
def k8_86 : ACode :=
  .loop lc8_3
@[simp] theorem xk8_86 : GoC fns Q s k8_86 st ↔ (LoopR fns lc8_3 st fun r => GoE fns Q s r.1 r.2) := goC_loop
def k8_87 : ACode :=
  .block 0 k8_86
@[simp] theorem xk8_87 : GoC fns Q s k8_87 st ↔ GoC fns Q (.bl 0 :: s) k8_86 st := goC_block
def k8_88 : ACode :=
  .seq k8_87 k8_77
@[simp] theorem xk8_88 : GoC fns Q s k8_88 st ↔ GoC fns Q (.sq k8_77 :: s) k8_87 st := goC_seq
def k8_89 : ACode :=
  .ops [⟨.assign (.c (.int .i64 0)), (some 7), none⟩] k8_88
@[simp] theorem xk8_89 : GoC fns Q s k8_89 st ↔ GoO fns Q s [⟨.assign (.c (.int .i64 0)), (some 7), none⟩] k8_88 st := goC_ops
def k8_90 : ACode :=
  .ops [⟨.assign (.c (.slice .nil 0 1 [])), (some 6), none⟩] k8_89
@[simp] theorem xk8_90 : GoC fns Q s k8_90 st ↔ GoO fns Q s [⟨.assign (.c (.slice .nil 0 1 [])), (some 6), none⟩] k8_89 st := goC_ops
def k8_91 : ACode :=
  .ops [⟨.assign (.c (.bool true)), (some 4), none⟩] .ret
@[simp] theorem xk8_91 : GoC fns Q s k8_91 st ↔ GoO fns Q s [⟨.assign (.c (.bool true)), (some 4), none⟩] .ret st := goC_ops
def k8_92 : ACode :=
  .cond (.p 32) k8_91 .skip
@[simp] theorem xk8_92 : GoC fns Q s k8_92 st ↔ GB fns Q s (peek st (.p 32)) k8_91 .skip st := goC_cond
def k8_93 : ACode :=
  .seq k8_92 k8_90
@[simp] theorem xk8_93 : GoC fns Q s k8_93 st ↔ GoC fns Q (.sq k8_90 :: s) k8_92 st := goC_seq
def k8_94 : ACode :=
  .ops q8_27 k8_93
@[simp] theorem xk8_94 : GoC fns Q s k8_94 st ↔ GoO fns Q s q8_27 k8_93 st := goC_ops
def k8_95 : ACode :=
  .ops q8_28 k8_94
@[simp] theorem xk8_95 : GoC fns Q s k8_95 st ↔ GoO fns Q s q8_28 k8_94 st := goC_ops
def k8_96 : ACode :=
  .ops [⟨.assign (.c (.bool true)), (some 4), none⟩] .ret
@[simp] theorem xk8_96 : GoC fns Q s k8_96 st ↔ GoO fns Q s [⟨.assign (.c (.bool true)), (some 4), none⟩] .ret st := goC_ops
def k8_97 : ACode :=
  .cond (.p 22) k8_96 .skip
@[simp] theorem xk8_97 : GoC fns Q s k8_97 st ↔ GB fns Q s (peek st (.p 22)) k8_96 .skip st := goC_cond
def k8_98 : ACode :=
  .seq k8_97 k8_95
@[simp] theorem xk8_98 : GoC fns Q s k8_98 st ↔ GoC fns Q (.sq k8_95 :: s) k8_97 st := goC_seq
def k8_99 : ACode :=
  .ops q8_29 k8_98
@[simp] theorem xk8_99 : GoC fns Q s k8_99 st ↔ GoO fns Q s q8_29 k8_98 st := goC_ops
def k8_100 : ACode :=
  .ops [⟨.assign (.c (.bool false)), (some 4), none⟩] k8_99
@[simp] theorem xk8_100 : GoC fns Q s k8_100 st ↔ GoO fns Q s [⟨.assign (.c (.bool false)), (some 4), none⟩] k8_99 st := goC_ops
def af8 : AFunc := ⟨182, k8_100, [.tmp 4], fun _ _ => none⟩

theorem ok8 : ∃ hs, pFunc Tryz.prog sg hs Tryz.f8 = some af8 := ⟨fun i => 0, by kernel_rfl⟩
def q13_0 : List AOper :=
  [⟨.buildSl 5 1 [] [], (some 3), none⟩,
    ⟨.move .look (.t 0), (some 4), none⟩,
    ⟨.append 5 1 1 false (.t 3) (.p 4), (some 5), none⟩,
    ⟨.assign (.t 5), (some 2), none⟩]
@[simp] def eq13_0 := id q13_0.eq_1
def k13_0 : ACode :=
  .ops q13_0 .ret
@[simp] theorem xk13_0 : GoC fns Q s k13_0 st ↔ GoO fns Q s q13_0 .ret st := goC_ops
def k13_1 : ACode :=
  .ops [⟨.assign (.c (.slice .nil 0 1 [])), (some 2), none⟩] k13_0
@[simp] theorem xk13_1 : GoC fns Q s k13_1 st ↔ GoO fns Q s [⟨.assign (.c (.slice .nil 0 1 [])), (some 2), none⟩] k13_0 st := goC_ops
def af13 : AFunc := ⟨6, k13_1, [.tmp 2], fun _ _ => none⟩

theorem ok13 : ∃ hs, pFunc Tryz.prog sg hs Tryz.f13 = some af13 := ⟨fun i => 0, by kernel_rfl⟩
end
end Go.Proofs.YtcodfehgnjplcaaGreatDoor.Abs
