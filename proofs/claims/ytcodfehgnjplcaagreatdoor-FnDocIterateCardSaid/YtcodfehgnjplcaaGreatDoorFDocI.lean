/- The functions that the law reaches, made ready for the interpreter (printed by a program of this session; the kernel compares each with the given program). -/
import Derived.Test.YtcodfehgnjplcaaGreatDoorFDocIP2
namespace Go.Proofs.YtcodfehgnjplcaaGreatDoor.Abs
set_option linter.all false
set_option maxRecDepth 100000
def fnsL : List (FuncId × AFunc) := [(68, af68), (22, af22), (69, af69), (91, af91), (223, af223), (224, af224), (167, af167), (70, af70), (71, af71), (23, af23), (82, af82), (75, af75), (72, af72), (76, af76), (26, af26), (32, af32), (24, af24), (140, af140), (54, af54), (220, af220), (164, af164), (64, af64), (163, af163), (61, af61), (166, af166), (218, af218), (170, af170), (84, af84), (165, af165), (65, af65), (55, af55), (85, af85), (86, af86), (88, af88), (87, af87), (67, af67), (168, af168), (73, af73), (173, af173), (89, af89), (34, af34), (262, af262), (229, af229), (180, af180), (141, af141), (316, af316), (307, af307), (265, af265), (266, af266), (232, af232), (314, af314), (300, af300), (248, af248), (201, af201), (142, af142), (304, af304), (254, af254), (207, af207), (143, af143), (56, af56), (210, af210), (146, af146), (147, af147), (157, af157), (57, af57), (258, af258), (214, af214), (215, af215), (216, af216), (259, af259), (217, af217), (161, af161), (62, af62), (58, af58), (260, af260), (219, af219), (172, af172), (162, af162), (59, af59), (14, af14), (8, af8), (13, af13)]
def fns : FuncId → Option AFunc := fun f => fnsL.lookup f
theorem run68 {vs : List AV} {h0 : H} (hl : vs.length ≤ 20) {r : AV × H} (h : GoC fns (fun e => xends [.tmp 2] e = some r) [] k68_5 ⟨fun j => (vs[j]?).getD .undef, fun _ => none, h0⟩) : callω fns 68 vs h0 = some r :=
  callω_run fns (af := af68) rfl rfl rfl rfl hl h
theorem run22 {vs : List AV} {h0 : H} (hl : vs.length ≤ 25) {r : AV × H} (h : GoC fns (fun e => xends [.cell 2 true 8] e = some r) [] k22_14 ⟨fun j => (vs[j]?).getD .undef, fun _ => none, h0⟩) : callω fns 22 vs h0 = some r :=
  callω_run fns (af := af22) rfl rfl rfl rfl hl h
theorem run69 {vs : List AV} {h0 : H} (hl : vs.length ≤ 32) {r : AV × H} (h : GoC fns (fun e => xends [.tmp 4] e = some r) [] k69_14 ⟨fun j => (vs[j]?).getD .undef, fun _ => none, h0⟩) : callω fns 69 vs h0 = some r :=
  callω_run fns (af := af69) rfl rfl rfl rfl hl h
theorem run91 {vs : List AV} {h0 : H} (hl : vs.length ≤ 17) {r : AV × H} (h : GoC fns (fun e => xends [.tmp 2] e = some r) [] k91_1 ⟨fun j => (vs[j]?).getD .undef, fun _ => none, h0⟩) : callω fns 91 vs h0 = some r :=
  callω_run fns (af := af91) rfl rfl rfl rfl hl h
theorem run223 {vs : List AV} {h0 : H} (hl : vs.length ≤ 48) {r : AV × H} (h : GoC fns (fun e => xends [.cell 2 true 8] e = some r) [] k223_52 ⟨fun j => (vs[j]?).getD .undef, fun _ => none, h0⟩) : callω fns 223 vs h0 = some r :=
  callω_run fns (af := af223) rfl rfl rfl rfl hl h
theorem run224 {vs : List AV} {h0 : H} (hl : vs.length ≤ 14) {r : AV × H} (h : GoC fns (fun e => xends [.tmp 2] e = some r) [] k224_15 ⟨fun j => (vs[j]?).getD .undef, fun _ => none, h0⟩) : callω fns 224 vs h0 = some r :=
  callω_run fns (af := af224) rfl rfl rfl rfl hl h
theorem run167 {vs : List AV} {h0 : H} (hl : vs.length ≤ 138) {r : AV × H} (h : GoC fns (fun e => xends [.tmp 4] e = some r) [] k167_46 ⟨fun j => (vs[j]?).getD .undef, fun _ => none, h0⟩) : callω fns 167 vs h0 = some r :=
  callω_run fns (af := af167) rfl rfl rfl rfl hl h
theorem run70 {vs : List AV} {h0 : H} (hl : vs.length ≤ 5) {r : AV × H} (h : GoC fns (fun e => xends [.tmp 2] e = some r) [] k70_1 ⟨fun j => (vs[j]?).getD .undef, fun _ => none, h0⟩) : callω fns 70 vs h0 = some r :=
  callω_run fns (af := af70) rfl rfl rfl rfl hl h
theorem run71 {vs : List AV} {h0 : H} (hl : vs.length ≤ 41) {r : AV × H} (h : GoC fns (fun e => xends [.tmp 2] e = some r) [] k71_14 ⟨fun j => (vs[j]?).getD .undef, fun _ => none, h0⟩) : callω fns 71 vs h0 = some r :=
  callω_run fns (af := af71) rfl rfl rfl rfl hl h
theorem run23 {vs : List AV} {h0 : H} (hl : vs.length ≤ 15) {r : AV × H} (h : GoC fns (fun e => xends [.tmp 2] e = some r) [] k23_1 ⟨fun j => (vs[j]?).getD .undef, fun _ => none, h0⟩) : callω fns 23 vs h0 = some r :=
  callω_run fns (af := af23) rfl rfl rfl rfl hl h
theorem run82 {vs : List AV} {h0 : H} (hl : vs.length ≤ 14) {r : AV × H} (h : GoC fns (fun e => xends [.tmp 4] e = some r) [] k82_2 ⟨fun j => (vs[j]?).getD .undef, fun _ => none, h0⟩) : callω fns 82 vs h0 = some r :=
  callω_run fns (af := af82) rfl rfl rfl rfl hl h
theorem run75 {vs : List AV} {h0 : H} (hl : vs.length ≤ 18) {r : AV × H} (h : GoC fns (fun e => xends [.tmp 4] e = some r) [] k75_13 ⟨fun j => (vs[j]?).getD .undef, fun _ => none, h0⟩) : callω fns 75 vs h0 = some r :=
  callω_run fns (af := af75) rfl rfl rfl rfl hl h
theorem run72 {vs : List AV} {h0 : H} (hl : vs.length ≤ 19) {r : AV × H} (h : GoC fns (fun e => xends [.tmp 4] e = some r) [] k72_1 ⟨fun j => (vs[j]?).getD .undef, fun _ => none, h0⟩) : callω fns 72 vs h0 = some r :=
  callω_run fns (af := af72) rfl rfl rfl rfl hl h
theorem run76 {vs : List AV} {h0 : H} (hl : vs.length ≤ 16) {r : AV × H} (h : GoC fns (fun e => xends [.tmp 4] e = some r) [] k76_3 ⟨fun j => (vs[j]?).getD .undef, fun _ => none, h0⟩) : callω fns 76 vs h0 = some r :=
  callω_run fns (af := af76) rfl rfl rfl rfl hl h
theorem run26 {vs : List AV} {h0 : H} (hl : vs.length ≤ 148) {r : AV × H} (h : GoC fns (fun e => xends [.tmp 2] e = some r) [] k26_73 ⟨fun j => (vs[j]?).getD .undef, fun _ => none, h0⟩) : callω fns 26 vs h0 = some r :=
  callω_run fns (af := af26) rfl rfl rfl rfl hl h
theorem run32 {vs : List AV} {h0 : H} (hl : vs.length ≤ 13) {r : AV × H} (h : GoC fns (fun e => xends [.tmp 2] e = some r) [] k32_1 ⟨fun j => (vs[j]?).getD .undef, fun _ => none, h0⟩) : callω fns 32 vs h0 = some r :=
  callω_run fns (af := af32) rfl rfl rfl rfl hl h
theorem run24 {vs : List AV} {h0 : H} (hl : vs.length ≤ 29) {r : AV × H} (h : GoC fns (fun e => xends [.tmp 2] e = some r) [] k24_16 ⟨fun j => (vs[j]?).getD .undef, fun _ => none, h0⟩) : callω fns 24 vs h0 = some r :=
  callω_run fns (af := af24) rfl rfl rfl rfl hl h
theorem run140 {vs : List AV} {h0 : H} (hl : vs.length ≤ 38) {r : AV × H} (h : GoC fns (fun e => xends [.tmp 2, .tmp 3, .tmp 4] e = some r) [] k140_7 ⟨fun j => (vs[j]?).getD .undef, fun _ => none, h0⟩) : callω fns 140 vs h0 = some r :=
  callω_run fns (af := af140) rfl rfl rfl rfl hl h
theorem run54 {vs : List AV} {h0 : H} (hl : vs.length ≤ 20) {r : AV × H} (h : GoC fns (fun e => xends [.tmp 2, .tmp 3, .tmp 4] e = some r) [] k54_6 ⟨fun j => (vs[j]?).getD .undef, fun _ => none, h0⟩) : callω fns 54 vs h0 = some r :=
  callω_run fns (af := af54) rfl rfl rfl rfl hl h
theorem run220 {vs : List AV} {h0 : H} (hl : vs.length ≤ 8) {r : AV × H} (h : GoC fns (fun e => xends [.tmp 4] e = some r) [] k220_1 ⟨fun j => (vs[j]?).getD .undef, fun _ => none, h0⟩) : callω fns 220 vs h0 = some r :=
  callω_run fns (af := af220) rfl rfl rfl rfl hl h
theorem run164 {vs : List AV} {h0 : H} (hl : vs.length ≤ 94) {r : AV × H} (h : GoC fns (fun e => xends [.tmp 4, .tmp 5] e = some r) [] k164_81 ⟨fun j => (vs[j]?).getD .undef, fun _ => none, h0⟩) : callω fns 164 vs h0 = some r :=
  callω_run fns (af := af164) rfl rfl rfl rfl hl h
theorem run64 {vs : List AV} {h0 : H} (hl : vs.length ≤ 63) {r : AV × H} (h : GoC fns (fun e => xends [.tmp 2, .tmp 3, .tmp 4] e = some r) [] k64_31 ⟨fun j => (vs[j]?).getD .undef, fun _ => none, h0⟩) : callω fns 64 vs h0 = some r :=
  callω_run fns (af := af64) rfl rfl rfl rfl hl h
theorem run163 {vs : List AV} {h0 : H} (hl : vs.length ≤ 31) {r : AV × H} (h : GoC fns (fun e => xends [.tmp 4, .tmp 5, .tmp 6] e = some r) [] k163_6 ⟨fun j => (vs[j]?).getD .undef, fun _ => none, h0⟩) : callω fns 163 vs h0 = some r :=
  callω_run fns (af := af163) rfl rfl rfl rfl hl h
theorem run61 {vs : List AV} {h0 : H} (hl : vs.length ≤ 25) {r : AV × H} (h : GoC fns (fun e => xends [.cell 4 true 2, .tmp 5, .tmp 6] e = some r) [] k61_6 ⟨fun j => (vs[j]?).getD .undef, fun _ => none, h0⟩) : callω fns 61 vs h0 = some r :=
  callω_run fns (af := af61) rfl rfl rfl rfl hl h
theorem run166 {vs : List AV} {h0 : H} (hl : vs.length ≤ 8) {r : AV × H} (h : GoC fns (fun e => xends [.cell 4 true 2] e = some r) [] k166_1 ⟨fun j => (vs[j]?).getD .undef, fun _ => none, h0⟩) : callω fns 166 vs h0 = some r :=
  callω_run fns (af := af166) rfl rfl rfl rfl hl h
theorem run218 {vs : List AV} {h0 : H} (hl : vs.length ≤ 40) {r : AV × H} (h : GoC fns (fun e => xends [.cell 2 true 2, .tmp 3] e = some r) [] k218_15 ⟨fun j => (vs[j]?).getD .undef, fun _ => none, h0⟩) : callω fns 218 vs h0 = some r :=
  callω_run fns (af := af218) rfl rfl rfl rfl hl h
theorem run170 {vs : List AV} {h0 : H} (hl : vs.length ≤ 11) {r : AV × H} (h : GoC fns (fun e => xends [.cell 2 true 2] e = some r) [] k170_2 ⟨fun j => (vs[j]?).getD .undef, fun _ => none, h0⟩) : callω fns 170 vs h0 = some r :=
  callω_run fns (af := af170) rfl rfl rfl rfl hl h
theorem run84 {vs : List AV} {h0 : H} (hl : vs.length ≤ 78) {r : AV × H} (h : GoC fns (fun e => xends [.tmp 2, .tmp 3] e = some r) [] k84_25 ⟨fun j => (vs[j]?).getD .undef, fun _ => none, h0⟩) : callω fns 84 vs h0 = some r :=
  callω_run fns (af := af84) rfl rfl rfl rfl hl h
theorem run65 {vs : List AV} {h0 : H} (hl : vs.length ≤ 42) {r : AV × H} (h : GoC fns (fun e => xends [.tmp 2] e = some r) [] k65_47 ⟨fun j => (vs[j]?).getD .undef, fun _ => none, h0⟩) : callω fns 65 vs h0 = some r :=
  callω_run fns (af := af65) rfl rfl rfl rfl hl h
theorem run55 {vs : List AV} {h0 : H} (hl : vs.length ≤ 5) {r : AV × H} (h : GoC fns (fun e => xends [.tmp 2] e = some r) [] k55_1 ⟨fun j => (vs[j]?).getD .undef, fun _ => none, h0⟩) : callω fns 55 vs h0 = some r :=
  callω_run fns (af := af55) rfl rfl rfl rfl hl h
theorem run85 {vs : List AV} {h0 : H} (hl : vs.length ≤ 5) {r : AV × H} (h : GoC fns (fun e => xends [] e = some r) [] k85_0 ⟨fun j => (vs[j]?).getD .undef, fun _ => none, h0⟩) : callω fns 85 vs h0 = some r :=
  callω_run fns (af := af85) rfl rfl rfl rfl hl h
theorem run86 {vs : List AV} {h0 : H} (hl : vs.length ≤ 34) {r : AV × H} (h : GoC fns (fun e => xends [.tmp 2] e = some r) [] k86_25 ⟨fun j => (vs[j]?).getD .undef, fun _ => none, h0⟩) : callω fns 86 vs h0 = some r :=
  callω_run fns (af := af86) rfl rfl rfl rfl hl h
theorem run88 {vs : List AV} {h0 : H} (hl : vs.length ≤ 9) {r : AV × H} (h : GoC fns (fun e => xends [.tmp 2] e = some r) [] k88_1 ⟨fun j => (vs[j]?).getD .undef, fun _ => none, h0⟩) : callω fns 88 vs h0 = some r :=
  callω_run fns (af := af88) rfl rfl rfl rfl hl h
theorem run87 {vs : List AV} {h0 : H} (hl : vs.length ≤ 4) {r : AV × H} (h : GoC fns (fun e => xends [.tmp 2] e = some r) [] k87_5 ⟨fun j => (vs[j]?).getD .undef, fun _ => none, h0⟩) : callω fns 87 vs h0 = some r :=
  callω_run fns (af := af87) rfl rfl rfl rfl hl h
theorem run67 {vs : List AV} {h0 : H} (hl : vs.length ≤ 23) {r : AV × H} (h : GoC fns (fun e => xends [.tmp 2] e = some r) [] k67_6 ⟨fun j => (vs[j]?).getD .undef, fun _ => none, h0⟩) : callω fns 67 vs h0 = some r :=
  callω_run fns (af := af67) rfl rfl rfl rfl hl h
theorem run168 {vs : List AV} {h0 : H} (hl : vs.length ≤ 57) {r : AV × H} (h : GoC fns (fun e => xends [.tmp 2, .tmp 3] e = some r) [] k168_29 ⟨fun j => (vs[j]?).getD .undef, fun _ => none, h0⟩) : callω fns 168 vs h0 = some r :=
  callω_run fns (af := af168) rfl rfl rfl rfl hl h
theorem run73 {vs : List AV} {h0 : H} (hl : vs.length ≤ 8) {r : AV × H} (h : GoC fns (fun e => xends [.tmp 2, .tmp 3] e = some r) [] k73_1 ⟨fun j => (vs[j]?).getD .undef, fun _ => none, h0⟩) : callω fns 73 vs h0 = some r :=
  callω_run fns (af := af73) rfl rfl rfl rfl hl h
theorem run173 {vs : List AV} {h0 : H} (hl : vs.length ≤ 7) {r : AV × H} (h : GoC fns (fun e => xends [.tmp 2] e = some r) [] k173_1 ⟨fun j => (vs[j]?).getD .undef, fun _ => none, h0⟩) : callω fns 173 vs h0 = some r :=
  callω_run fns (af := af173) rfl rfl rfl rfl hl h
theorem run89 {vs : List AV} {h0 : H} (hl : vs.length ≤ 50) {r : AV × H} (h : GoC fns (fun e => xends [.tmp 2, .tmp 3] e = some r) [] k89_28 ⟨fun j => (vs[j]?).getD .undef, fun _ => none, h0⟩) : callω fns 89 vs h0 = some r :=
  callω_run fns (af := af89) rfl rfl rfl rfl hl h
theorem run34 {vs : List AV} {h0 : H} (hl : vs.length ≤ 97) {r : AV × H} (h : GoC fns (fun e => xends [.tmp 4] e = some r) [] k34_52 ⟨fun j => (vs[j]?).getD .undef, fun _ => none, h0⟩) : callω fns 34 vs h0 = some r :=
  callω_run fns (af := af34) rfl rfl rfl rfl hl h
theorem run262 {vs : List AV} {h0 : H} (hl : vs.length ≤ 12) {r : AV × H} (h : GoC fns (fun e => xends [.tmp 2, .tmp 3] e = some r) [] k262_2 ⟨fun j => (vs[j]?).getD .undef, fun _ => none, h0⟩) : callω fns 262 vs h0 = some r :=
  callω_run fns (af := af262) rfl rfl rfl rfl hl h
theorem run229 {vs : List AV} {h0 : H} (hl : vs.length ≤ 8) {r : AV × H} (h : GoC fns (fun e => xends [.tmp 2, .tmp 3] e = some r) [] k229_1 ⟨fun j => (vs[j]?).getD .undef, fun _ => none, h0⟩) : callω fns 229 vs h0 = some r :=
  callω_run fns (af := af229) rfl rfl rfl rfl hl h
theorem run180 {vs : List AV} {h0 : H} (hl : vs.length ≤ 26) {r : AV × H} (h : GoC fns (fun e => xends [.tmp 2] e = some r) [] k180_4 ⟨fun j => (vs[j]?).getD .undef, fun _ => none, h0⟩) : callω fns 180 vs h0 = some r :=
  callω_run fns (af := af180) rfl rfl rfl rfl hl h
theorem run141 {vs : List AV} {h0 : H} (hl : vs.length ≤ 4) {r : AV × H} (h : GoC fns (fun e => xends [.tmp 0] e = some r) [] k141_1 ⟨fun j => (vs[j]?).getD .undef, fun _ => none, h0⟩) : callω fns 141 vs h0 = some r :=
  callω_run fns (af := af141) rfl rfl rfl rfl hl h
theorem run316 {vs : List AV} {h0 : H} (hl : vs.length ≤ 35) {r : AV × H} (h : GoC fns (fun e => xends [.tmp 4] e = some r) [] k316_18 ⟨fun j => (vs[j]?).getD .undef, fun _ => none, h0⟩) : callω fns 316 vs h0 = some r :=
  callω_run fns (af := af316) rfl rfl rfl rfl hl h
theorem run307 {vs : List AV} {h0 : H} (hl : vs.length ≤ 9) {r : AV × H} (h : GoC fns (fun e => xends [.tmp 4] e = some r) [] k307_1 ⟨fun j => (vs[j]?).getD .undef, fun _ => none, h0⟩) : callω fns 307 vs h0 = some r :=
  callω_run fns (af := af307) rfl rfl rfl rfl hl h
theorem run265 {vs : List AV} {h0 : H} (hl : vs.length ≤ 6) {r : AV × H} (h : GoC fns (fun e => xends [.tmp 2] e = some r) [] k265_1 ⟨fun j => (vs[j]?).getD .undef, fun _ => none, h0⟩) : callω fns 265 vs h0 = some r :=
  callω_run fns (af := af265) rfl rfl rfl rfl hl h
theorem run266 {vs : List AV} {h0 : H} (hl : vs.length ≤ 9) {r : AV × H} (h : GoC fns (fun e => xends [.tmp 4] e = some r) [] k266_1 ⟨fun j => (vs[j]?).getD .undef, fun _ => none, h0⟩) : callω fns 266 vs h0 = some r :=
  callω_run fns (af := af266) rfl rfl rfl rfl hl h
theorem run232 {vs : List AV} {h0 : H} (hl : vs.length ≤ 20) {r : AV × H} (h : GoC fns (fun e => xends [.tmp 6] e = some r) [] k232_7 ⟨fun j => (vs[j]?).getD .undef, fun _ => none, h0⟩) : callω fns 232 vs h0 = some r :=
  callω_run fns (af := af232) rfl rfl rfl rfl hl h
theorem run314 {vs : List AV} {h0 : H} (hl : vs.length ≤ 19) {r : AV × H} (h : GoC fns (fun e => xends [.tmp 4] e = some r) [] k314_1 ⟨fun j => (vs[j]?).getD .undef, fun _ => none, h0⟩) : callω fns 314 vs h0 = some r :=
  callω_run fns (af := af314) rfl rfl rfl rfl hl h
theorem run300 {vs : List AV} {h0 : H} (hl : vs.length ≤ 8) {r : AV × H} (h : GoC fns (fun e => xends [.tmp 4] e = some r) [] k300_1 ⟨fun j => (vs[j]?).getD .undef, fun _ => none, h0⟩) : callω fns 300 vs h0 = some r :=
  callω_run fns (af := af300) rfl rfl rfl rfl hl h
theorem run248 {vs : List AV} {h0 : H} (hl : vs.length ≤ 12) {r : AV × H} (h : GoC fns (fun e => xends [.tmp 6] e = some r) [] k248_1 ⟨fun j => (vs[j]?).getD .undef, fun _ => none, h0⟩) : callω fns 248 vs h0 = some r :=
  callω_run fns (af := af248) rfl rfl rfl rfl hl h
theorem run201 {vs : List AV} {h0 : H} (hl : vs.length ≤ 18) {r : AV × H} (h : GoC fns (fun e => xends [.tmp 6] e = some r) [] k201_2 ⟨fun j => (vs[j]?).getD .undef, fun _ => none, h0⟩) : callω fns 201 vs h0 = some r :=
  callω_run fns (af := af201) rfl rfl rfl rfl hl h
theorem run142 {vs : List AV} {h0 : H} (hl : vs.length ≤ 206) {r : AV × H} (h : GoC fns (fun e => xends [] e = some r) [] k142_79 ⟨fun j => (vs[j]?).getD .undef, fun _ => none, h0⟩) : callω fns 142 vs h0 = some r :=
  callω_run fns (af := af142) rfl rfl rfl rfl hl h
theorem run304 {vs : List AV} {h0 : H} (hl : vs.length ≤ 28) {r : AV × H} (h : GoC fns (fun e => xends [] e = some r) [] k304_5 ⟨fun j => (vs[j]?).getD .undef, fun _ => none, h0⟩) : callω fns 304 vs h0 = some r :=
  callω_run fns (af := af304) rfl rfl rfl rfl hl h
theorem run254 {vs : List AV} {h0 : H} (hl : vs.length ≤ 15) {r : AV × H} (h : GoC fns (fun e => xends [.tmp 6] e = some r) [] k254_2 ⟨fun j => (vs[j]?).getD .undef, fun _ => none, h0⟩) : callω fns 254 vs h0 = some r :=
  callω_run fns (af := af254) rfl rfl rfl rfl hl h
theorem run207 {vs : List AV} {h0 : H} (hl : vs.length ≤ 26) {r : AV × H} (h : GoC fns (fun e => xends [.tmp 4, .tmp 5] e = some r) [] k207_7 ⟨fun j => (vs[j]?).getD .undef, fun _ => none, h0⟩) : callω fns 207 vs h0 = some r :=
  callω_run fns (af := af207) rfl rfl rfl rfl hl h
theorem run143 {vs : List AV} {h0 : H} (hl : vs.length ≤ 41) {r : AV × H} (h : GoC fns (fun e => xends [.tmp 2] e = some r) [] k143_4 ⟨fun j => (vs[j]?).getD .undef, fun _ => none, h0⟩) : callω fns 143 vs h0 = some r :=
  callω_run fns (af := af143) rfl rfl rfl rfl hl h
theorem run56 {vs : List AV} {h0 : H} (hl : vs.length ≤ 10) {r : AV × H} (h : GoC fns (fun e => xends [.tmp 2] e = some r) [] k56_3 ⟨fun j => (vs[j]?).getD .undef, fun _ => none, h0⟩) : callω fns 56 vs h0 = some r :=
  callω_run fns (af := af56) rfl rfl rfl rfl hl h
theorem run210 {vs : List AV} {h0 : H} (hl : vs.length ≤ 32) {r : AV × H} (h : GoC fns (fun e => xends [.tmp 2, .tmp 3, .tmp 4] e = some r) [] k210_14 ⟨fun j => (vs[j]?).getD .undef, fun _ => none, h0⟩) : callω fns 210 vs h0 = some r :=
  callω_run fns (af := af210) rfl rfl rfl rfl hl h
theorem run146 {vs : List AV} {h0 : H} (hl : vs.length ≤ 10) {r : AV × H} (h : GoC fns (fun e => xends [.tmp 2, .tmp 3, .tmp 4] e = some r) [] k146_1 ⟨fun j => (vs[j]?).getD .undef, fun _ => none, h0⟩) : callω fns 146 vs h0 = some r :=
  callω_run fns (af := af146) rfl rfl rfl rfl hl h
theorem run147 {vs : List AV} {h0 : H} (hl : vs.length ≤ 10) {r : AV × H} (h : GoC fns (fun e => xends [.tmp 2, .tmp 3, .tmp 4] e = some r) [] k147_1 ⟨fun j => (vs[j]?).getD .undef, fun _ => none, h0⟩) : callω fns 147 vs h0 = some r :=
  callω_run fns (af := af147) rfl rfl rfl rfl hl h
theorem run157 {vs : List AV} {h0 : H} (hl : vs.length ≤ 10) {r : AV × H} (h : GoC fns (fun e => xends [.tmp 2, .tmp 3, .tmp 4] e = some r) [] k157_1 ⟨fun j => (vs[j]?).getD .undef, fun _ => none, h0⟩) : callω fns 157 vs h0 = some r :=
  callω_run fns (af := af157) rfl rfl rfl rfl hl h
theorem run57 {vs : List AV} {h0 : H} (hl : vs.length ≤ 229) {r : AV × H} (h : GoC fns (fun e => xends [.cell 4 true 8, .tmp 5, .tmp 6] e = some r) [] k57_80 ⟨fun j => (vs[j]?).getD .undef, fun _ => none, h0⟩) : callω fns 57 vs h0 = some r :=
  callω_run fns (af := af57) rfl rfl rfl rfl hl h
theorem run258 {vs : List AV} {h0 : H} (hl : vs.length ≤ 19) {r : AV × H} (h : GoC fns (fun e => xends [.tmp 2, .tmp 3] e = some r) [] k258_10 ⟨fun j => (vs[j]?).getD .undef, fun _ => none, h0⟩) : callω fns 258 vs h0 = some r :=
  callω_run fns (af := af258) rfl rfl rfl rfl hl h
theorem run214 {vs : List AV} {h0 : H} (hl : vs.length ≤ 11) {r : AV × H} (h : GoC fns (fun e => xends [.tmp 2] e = some r) [] k214_2 ⟨fun j => (vs[j]?).getD .undef, fun _ => none, h0⟩) : callω fns 214 vs h0 = some r :=
  callω_run fns (af := af214) rfl rfl rfl rfl hl h
theorem run215 {vs : List AV} {h0 : H} (hl : vs.length ≤ 29) {r : AV × H} (h : GoC fns (fun e => xends [.tmp 2] e = some r) [] k215_10 ⟨fun j => (vs[j]?).getD .undef, fun _ => none, h0⟩) : callω fns 215 vs h0 = some r :=
  callω_run fns (af := af215) rfl rfl rfl rfl hl h
theorem run216 {vs : List AV} {h0 : H} (hl : vs.length ≤ 29) {r : AV × H} (h : GoC fns (fun e => xends [.tmp 2] e = some r) [] k216_10 ⟨fun j => (vs[j]?).getD .undef, fun _ => none, h0⟩) : callω fns 216 vs h0 = some r :=
  callω_run fns (af := af216) rfl rfl rfl rfl hl h
theorem run259 {vs : List AV} {h0 : H} (hl : vs.length ≤ 14) {r : AV × H} (h : GoC fns (fun e => xends [.tmp 2, .tmp 3] e = some r) [] k259_2 ⟨fun j => (vs[j]?).getD .undef, fun _ => none, h0⟩) : callω fns 259 vs h0 = some r :=
  callω_run fns (af := af259) rfl rfl rfl rfl hl h
theorem run217 {vs : List AV} {h0 : H} (hl : vs.length ≤ 11) {r : AV × H} (h : GoC fns (fun e => xends [.tmp 2] e = some r) [] k217_2 ⟨fun j => (vs[j]?).getD .undef, fun _ => none, h0⟩) : callω fns 217 vs h0 = some r :=
  callω_run fns (af := af217) rfl rfl rfl rfl hl h
theorem run161 {vs : List AV} {h0 : H} (hl : vs.length ≤ 113) {r : AV × H} (h : GoC fns (fun e => xends [.cell 4 true 2, .tmp 5] e = some r) [] k161_53 ⟨fun j => (vs[j]?).getD .undef, fun _ => none, h0⟩) : callω fns 161 vs h0 = some r :=
  callω_run fns (af := af161) rfl rfl rfl rfl hl h
theorem run62 {vs : List AV} {h0 : H} (hl : vs.length ≤ 10) {r : AV × H} (h : GoC fns (fun e => xends [.cell 2 true 2] e = some r) [] k62_1 ⟨fun j => (vs[j]?).getD .undef, fun _ => none, h0⟩) : callω fns 62 vs h0 = some r :=
  callω_run fns (af := af62) rfl rfl rfl rfl hl h
theorem run58 {vs : List AV} {h0 : H} (hl : vs.length ≤ 18) {r : AV × H} (h : GoC fns (fun e => xends [.cell 4 true 2, .tmp 5] e = some r) [] k58_2 ⟨fun j => (vs[j]?).getD .undef, fun _ => none, h0⟩) : callω fns 58 vs h0 = some r :=
  callω_run fns (af := af58) rfl rfl rfl rfl hl h
theorem run260 {vs : List AV} {h0 : H} (hl : vs.length ≤ 10) {r : AV × H} (h : GoC fns (fun e => xends [.tmp 6] e = some r) [] k260_1 ⟨fun j => (vs[j]?).getD .undef, fun _ => none, h0⟩) : callω fns 260 vs h0 = some r :=
  callω_run fns (af := af260) rfl rfl rfl rfl hl h
theorem run219 {vs : List AV} {h0 : H} (hl : vs.length ≤ 8) {r : AV × H} (h : GoC fns (fun e => xends [.tmp 4] e = some r) [] k219_1 ⟨fun j => (vs[j]?).getD .undef, fun _ => none, h0⟩) : callω fns 219 vs h0 = some r :=
  callω_run fns (af := af219) rfl rfl rfl rfl hl h
theorem run172 {vs : List AV} {h0 : H} (hl : vs.length ≤ 23) {r : AV × H} (h : GoC fns (fun e => xends [.tmp 2] e = some r) [] k172_10 ⟨fun j => (vs[j]?).getD .undef, fun _ => none, h0⟩) : callω fns 172 vs h0 = some r :=
  callω_run fns (af := af172) rfl rfl rfl rfl hl h
theorem run162 {vs : List AV} {h0 : H} (hl : vs.length ≤ 76) {r : AV × H} (h : GoC fns (fun e => xends [.tmp 2] e = some r) [] k162_42 ⟨fun j => (vs[j]?).getD .undef, fun _ => none, h0⟩) : callω fns 162 vs h0 = some r :=
  callω_run fns (af := af162) rfl rfl rfl rfl hl h
theorem run59 {vs : List AV} {h0 : H} (hl : vs.length ≤ 6) {r : AV × H} (h : GoC fns (fun e => xends [.tmp 2] e = some r) [] k59_1 ⟨fun j => (vs[j]?).getD .undef, fun _ => none, h0⟩) : callω fns 59 vs h0 = some r :=
  callω_run fns (af := af59) rfl rfl rfl rfl hl h
theorem run14 {vs : List AV} {h0 : H} (hl : vs.length ≤ 60) {r : AV × H} (h : GoC fns (fun e => xends [.tmp 0] e = some r) [] k14_4 ⟨fun j => (vs[j]?).getD .undef, fun _ => none, h0⟩) : callω fns 14 vs h0 = some r :=
  callω_run fns (af := af14) rfl rfl rfl rfl hl h
theorem run8 {vs : List AV} {h0 : H} (hl : vs.length ≤ 182) {r : AV × H} (h : GoC fns (fun e => xends [.tmp 4] e = some r) [] k8_100 ⟨fun j => (vs[j]?).getD .undef, fun _ => none, h0⟩) : callω fns 8 vs h0 = some r :=
  callω_run fns (af := af8) rfl rfl rfl rfl hl h
theorem runs8 {vs : List AV} {h0 : H} (hl : vs.length ≤ 182) {p : AV × H → Prop} (h : GoC fns (fun e => Run (xends [.tmp 4] e) p) [] k8_100 ⟨fun j => (vs[j]?).getD .undef, fun _ => none, h0⟩) : CW fns 8 vs h0 p :=
  callω_runs fns (af := af8) rfl rfl rfl rfl hl h
theorem run13 {vs : List AV} {h0 : H} (hl : vs.length ≤ 6) {r : AV × H} (h : GoC fns (fun e => xends [.tmp 2] e = some r) [] k13_1 ⟨fun j => (vs[j]?).getD .undef, fun _ => none, h0⟩) : callω fns 13 vs h0 = some r :=
  callω_run fns (af := af13) rfl rfl rfl rfl hl h
theorem runs13 {vs : List AV} {h0 : H} (hl : vs.length ≤ 6) {p : AV × H → Prop} (h : GoC fns (fun e => Run (xends [.tmp 2] e) p) [] k13_1 ⟨fun j => (vs[j]?).getD .undef, fun _ => none, h0⟩) : CW fns 13 vs h0 p :=
  callω_runs fns (af := af13) rfl rfl rfl rfl hl h

theorem runv34 {vs : List AV} {h0 : H} (hl : vs.length ≤ 97) {v : AV} (h : GoC fns (fun e => Run (xends [.tmp 4] e) fun q => noHeap h0.n q = some v) [] k34_52 ⟨fun j => (vs[j]?).getD .undef, fun _ => none, h0⟩) : callv fns 34 vs h0 = some v :=
  callω_runv fns (af := af34) rfl rfl rfl rfl hl h
theorem runv254 {vs : List AV} {h0 : H} (hl : vs.length ≤ 15) {v : AV} (h : GoC fns (fun e => Run (xends [.tmp 6] e) fun q => noHeap h0.n q = some v) [] k254_2 ⟨fun j => (vs[j]?).getD .undef, fun _ => none, h0⟩) : callv fns 254 vs h0 = some v :=
  callω_runv fns (af := af254) rfl rfl rfl rfl hl h
theorem runv56 {vs : List AV} {h0 : H} (hl : vs.length ≤ 10) {v : AV} (h : GoC fns (fun e => Run (xends [.tmp 2] e) fun q => noHeap h0.n q = some v) [] k56_3 ⟨fun j => (vs[j]?).getD .undef, fun _ => none, h0⟩) : callv fns 56 vs h0 = some v :=
  callω_runv fns (af := af56) rfl rfl rfl rfl hl h
def OkF (f : FuncId) (af : AFunc) : Prop := ∃ fn, Tryz.prog.funcs[f]? = some fn ∧ (fn.name == "runtime.NumGoroutine") = false ∧ (∃ hs, pFunc Tryz.prog sg hs fn = some ⟨af.n, af.code, af.res, fun _ _ => none⟩) ∧ XOk Tryz.prog f af.x
def OkL : List (FuncId × AFunc) → Prop
  | [] => True
  | (f, af) :: r => OkF f af ∧ OkL r
theorem okL_lookup : ∀ {l : List (FuncId × AFunc)} {f : FuncId} {af : AFunc}, OkL l → l.lookup f = some af → OkF f af
  | [], _, _, _, h => by cases h
  | (g, ag) :: r, f, af, hl, h => by
    rw [List.lookup_cons] at h
    split at h
    · rename_i hb; injection h with h; subst h; have := beq_iff_eq.1 hb; subst this; exact hl.1
    · exact okL_lookup hl.2 h
theorem fnsOk : FnsOk Tryz.prog sg fns := fun f af h => okL_lookup (l := fnsL) ⟨⟨Tryz.f68, Tryz.func68, by kernel_rfl, ok68, xok_none _ _⟩, ⟨Tryz.f22, Tryz.func22, by kernel_rfl, ok22, xok_none _ _⟩, ⟨Tryz.f69, Tryz.func69, by kernel_rfl, ok69, xok_none _ _⟩, ⟨Tryz.f91, Tryz.func91, by kernel_rfl, ok91, xok_none _ _⟩, ⟨Tryz.f223, Tryz.func223, by kernel_rfl, ok223, xok_none _ _⟩, ⟨Tryz.f224, Tryz.func224, by kernel_rfl, ok224, xok_none _ _⟩, ⟨Tryz.f167, Tryz.func167, by kernel_rfl, ok167, xok_none _ _⟩, ⟨Tryz.f70, Tryz.func70, by kernel_rfl, ok70, xok_none _ _⟩, ⟨Tryz.f71, Tryz.func71, by kernel_rfl, ok71, xok_none _ _⟩, ⟨Tryz.f23, Tryz.func23, by kernel_rfl, ok23, xok_none _ _⟩, ⟨Tryz.f82, Tryz.func82, by kernel_rfl, ok82, xok_none _ _⟩, ⟨Tryz.f75, Tryz.func75, by kernel_rfl, ok75, xok_none _ _⟩, ⟨Tryz.f72, Tryz.func72, by kernel_rfl, ok72, xok_none _ _⟩, ⟨Tryz.f76, Tryz.func76, by kernel_rfl, ok76, xok_none _ _⟩, ⟨Tryz.f26, Tryz.func26, by kernel_rfl, ok26, xok_none _ _⟩, ⟨Tryz.f32, Tryz.func32, by kernel_rfl, ok32, xok_none _ _⟩, ⟨Tryz.f24, Tryz.func24, by kernel_rfl, ok24, xok_none _ _⟩, ⟨Tryz.f140, Tryz.func140, by kernel_rfl, ok140, xok_none _ _⟩, ⟨Tryz.f54, Tryz.func54, by kernel_rfl, ok54, xok_none _ _⟩, ⟨Tryz.f220, Tryz.func220, by kernel_rfl, ok220, xok_none _ _⟩, ⟨Tryz.f164, Tryz.func164, by kernel_rfl, ok164, xok_none _ _⟩, ⟨Tryz.f64, Tryz.func64, by kernel_rfl, ok64, xok_none _ _⟩, ⟨Tryz.f163, Tryz.func163, by kernel_rfl, ok163, xok_none _ _⟩, ⟨Tryz.f61, Tryz.func61, by kernel_rfl, ok61, xok_none _ _⟩, ⟨Tryz.f166, Tryz.func166, by kernel_rfl, ok166, xok_none _ _⟩, ⟨Tryz.f218, Tryz.func218, by kernel_rfl, ok218, xok_none _ _⟩, ⟨Tryz.f170, Tryz.func170, by kernel_rfl, ok170, xok_none _ _⟩, ⟨Tryz.f84, Tryz.func84, by kernel_rfl, ok84, xok_none _ _⟩, ⟨Tryz.f165, Tryz.func165, by kernel_rfl, ok165, xok_is⟩, ⟨Tryz.f65, Tryz.func65, by kernel_rfl, ok65, xok_none _ _⟩, ⟨Tryz.f55, Tryz.func55, by kernel_rfl, ok55, xok_none _ _⟩, ⟨Tryz.f85, Tryz.func85, by kernel_rfl, ok85, xok_none _ _⟩, ⟨Tryz.f86, Tryz.func86, by kernel_rfl, ok86, xok_none _ _⟩, ⟨Tryz.f88, Tryz.func88, by kernel_rfl, ok88, xok_none _ _⟩, ⟨Tryz.f87, Tryz.func87, by kernel_rfl, ok87, xok_none _ _⟩, ⟨Tryz.f67, Tryz.func67, by kernel_rfl, ok67, xok_none _ _⟩, ⟨Tryz.f168, Tryz.func168, by kernel_rfl, ok168, xok_none _ _⟩, ⟨Tryz.f73, Tryz.func73, by kernel_rfl, ok73, xok_none _ _⟩, ⟨Tryz.f173, Tryz.func173, by kernel_rfl, ok173, xok_none _ _⟩, ⟨Tryz.f89, Tryz.func89, by kernel_rfl, ok89, xok_none _ _⟩, ⟨Tryz.f34, Tryz.func34, by kernel_rfl, ok34, xok_none _ _⟩, ⟨Tryz.f262, Tryz.func262, by kernel_rfl, ok262, xok_none _ _⟩, ⟨Tryz.f229, Tryz.func229, by kernel_rfl, ok229, xok_none _ _⟩, ⟨Tryz.f180, Tryz.func180, by kernel_rfl, ok180, xok_none _ _⟩, ⟨Tryz.f141, Tryz.func141, by kernel_rfl, ok141, xok_none _ _⟩, ⟨Tryz.f316, Tryz.func316, by kernel_rfl, ok316, xok_none _ _⟩, ⟨Tryz.f307, Tryz.func307, by kernel_rfl, ok307, xok_none _ _⟩, ⟨Tryz.f265, Tryz.func265, by kernel_rfl, ok265, xok_none _ _⟩, ⟨Tryz.f266, Tryz.func266, by kernel_rfl, ok266, xok_none _ _⟩, ⟨Tryz.f232, Tryz.func232, by kernel_rfl, ok232, xok_none _ _⟩, ⟨Tryz.f314, Tryz.func314, by kernel_rfl, ok314, xok_none _ _⟩, ⟨Tryz.f300, Tryz.func300, by kernel_rfl, ok300, xok_none _ _⟩, ⟨Tryz.f248, Tryz.func248, by kernel_rfl, ok248, xok_none _ _⟩, ⟨Tryz.f201, Tryz.func201, by kernel_rfl, ok201, xok_none _ _⟩, ⟨Tryz.f142, Tryz.func142, by kernel_rfl, ok142, xok_none _ _⟩, ⟨Tryz.f304, Tryz.func304, by kernel_rfl, ok304, xok_none _ _⟩, ⟨Tryz.f254, Tryz.func254, by kernel_rfl, ok254, xok_none _ _⟩, ⟨Tryz.f207, Tryz.func207, by kernel_rfl, ok207, xok_none _ _⟩, ⟨Tryz.f143, Tryz.func143, by kernel_rfl, ok143, xok_none _ _⟩, ⟨Tryz.f56, Tryz.func56, by kernel_rfl, ok56, xok_none _ _⟩, ⟨Tryz.f210, Tryz.func210, by kernel_rfl, ok210, xok_none _ _⟩, ⟨Tryz.f146, Tryz.func146, by kernel_rfl, ok146, xok_none _ _⟩, ⟨Tryz.f147, Tryz.func147, by kernel_rfl, ok147, xok_none _ _⟩, ⟨Tryz.f157, Tryz.func157, by kernel_rfl, ok157, xok_none _ _⟩, ⟨Tryz.f57, Tryz.func57, by kernel_rfl, ok57, xok_none _ _⟩, ⟨Tryz.f258, Tryz.func258, by kernel_rfl, ok258, xok_none _ _⟩, ⟨Tryz.f214, Tryz.func214, by kernel_rfl, ok214, xok_none _ _⟩, ⟨Tryz.f215, Tryz.func215, by kernel_rfl, ok215, xok_none _ _⟩, ⟨Tryz.f216, Tryz.func216, by kernel_rfl, ok216, xok_none _ _⟩, ⟨Tryz.f259, Tryz.func259, by kernel_rfl, ok259, xok_none _ _⟩, ⟨Tryz.f217, Tryz.func217, by kernel_rfl, ok217, xok_none _ _⟩, ⟨Tryz.f161, Tryz.func161, by kernel_rfl, ok161, xok_none _ _⟩, ⟨Tryz.f62, Tryz.func62, by kernel_rfl, ok62, xok_none _ _⟩, ⟨Tryz.f58, Tryz.func58, by kernel_rfl, ok58, xok_none _ _⟩, ⟨Tryz.f260, Tryz.func260, by kernel_rfl, ok260, xok_none _ _⟩, ⟨Tryz.f219, Tryz.func219, by kernel_rfl, ok219, xok_none _ _⟩, ⟨Tryz.f172, Tryz.func172, by kernel_rfl, ok172, xok_none _ _⟩, ⟨Tryz.f162, Tryz.func162, by kernel_rfl, ok162, xok_none _ _⟩, ⟨Tryz.f59, Tryz.func59, by kernel_rfl, ok59, xok_none _ _⟩, ⟨Tryz.f14, Tryz.func14, by kernel_rfl, ok14, xok_none _ _⟩, ⟨Tryz.f8, Tryz.func8, by kernel_rfl, ok8, xok_none _ _⟩, ⟨Tryz.f13, Tryz.func13, by kernel_rfl, ok13, xok_none _ _⟩, trivial⟩ h
end Go.Proofs.YtcodfehgnjplcaaGreatDoor.Abs
