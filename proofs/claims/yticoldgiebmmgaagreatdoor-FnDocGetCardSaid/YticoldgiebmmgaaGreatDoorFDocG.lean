/- The functions that the law reaches, made ready for the interpreter (printed by a program of this session; the kernel compares each with the given program). -/
import Derived.Test.YticoldgiebmmgaaGreatDoorFDocGP2
namespace Go.Proofs.YticoldgiebmmgaaGreatDoor.Abs
set_option linter.all false
set_option maxRecDepth 100000
def fnsL : List (FuncId × AFunc) := [(4, af4), (5, af5), (6, af6), (15, af15), (43, af43), (14, af14), (70, af70), (44, af44), (16, af16), (8, af8), (7, af7), (17, af17), (9, af9), (11, af11), (18, af18), (122, af122), (73, af73), (45, af45), (19, af19), (80, af80), (77, af77), (75, af75), (46, af46), (21, af21), (76, af76), (47, af47), (22, af22), (23, af23), (48, af48), (24, af24), (49, af49), (25, af25), (50, af50), (26, af26), (51, af51), (27, af27), (28, af28), (78, af78), (52, af52), (29, af29), (155, af155), (123, af123), (79, af79), (53, af53), (30, af30), (54, af54), (31, af31), (55, af55), (32, af32), (56, af56), (33, af33), (57, af57), (34, af34), (58, af58), (35, af35), (124, af124), (81, af81), (59, af59), (36, af36), (60, af60), (37, af37), (61, af61), (38, af38), (10, af10), (160, af160), (125, af125), (82, af82), (62, af62), (215, af215), (206, af206), (163, af163), (164, af164), (128, af128), (213, af213), (198, af198), (144, af144), (102, af102), (63, af63), (150, af150), (202, af202), (151, af151), (108, af108), (64, af64), (39, af39), (152, af152), (109, af109), (65, af65), (40, af40), (110, af110), (111, af111), (153, af153), (112, af112), (117, af117), (113, af113), (114, af114), (115, af115), (154, af154), (116, af116), (66, af66), (67, af67), (118, af118), (68, af68), (41, af41), (158, af158), (119, af119), (159, af159), (120, af120), (69, af69), (42, af42), (12, af12), (13, af13), (3, af3)]
def fns : FuncId → Option AFunc := fun f => fnsL.lookup f
theorem run4 {vs : List AV} {h0 : H} (hl : vs.length ≤ 7) {r : AV × H} (h : GoC fns (fun e => xends [.tmp 2] e = some r) [] k4_5 ⟨fun j => (vs[j]?).getD .undef, fun _ => none, h0⟩) : callω fns 4 vs h0 = some r :=
  callω_run fns (af := af4) rfl rfl rfl rfl hl h
theorem run5 {vs : List AV} {h0 : H} (hl : vs.length ≤ 9) {r : AV × H} (h : GoC fns (fun e => xends [.tmp 2] e = some r) [] k5_1 ⟨fun j => (vs[j]?).getD .undef, fun _ => none, h0⟩) : callω fns 5 vs h0 = some r :=
  callω_run fns (af := af5) rfl rfl rfl rfl hl h
theorem run6 {vs : List AV} {h0 : H} (hl : vs.length ≤ 6) {r : AV × H} (h : GoC fns (fun e => xends [.tmp 2] e = some r) [] k6_1 ⟨fun j => (vs[j]?).getD .undef, fun _ => none, h0⟩) : callω fns 6 vs h0 = some r :=
  callω_run fns (af := af6) rfl rfl rfl rfl hl h
theorem run15 {vs : List AV} {h0 : H} (hl : vs.length ≤ 31) {r : AV × H} (h : GoC fns (fun e => xends [.tmp 2, .tmp 3] e = some r) [] k15_5 ⟨fun j => (vs[j]?).getD .undef, fun _ => none, h0⟩) : callω fns 15 vs h0 = some r :=
  callω_run fns (af := af15) rfl rfl rfl rfl hl h
theorem run43 {vs : List AV} {h0 : H} (hl : vs.length ≤ 23) {r : AV × H} (h : GoC fns (fun e => xends [.tmp 2, .tmp 3, .tmp 4] e = some r) [] k43_15 ⟨fun j => (vs[j]?).getD .undef, fun _ => none, h0⟩) : callω fns 43 vs h0 = some r :=
  callω_run fns (af := af43) rfl rfl rfl rfl hl h
theorem run14 {vs : List AV} {h0 : H} (hl : vs.length ≤ 140) {r : AV × H} (h : GoC fns (fun e => xends [.tmp 4, .tmp 5] e = some r) [] k14_64 ⟨fun j => (vs[j]?).getD .undef, fun _ => none, h0⟩) : callω fns 14 vs h0 = some r :=
  callω_run fns (af := af14) rfl rfl rfl rfl hl h
theorem run70 {vs : List AV} {h0 : H} (hl : vs.length ≤ 18) {r : AV × H} (h : GoC fns (fun e => xends [.tmp 2] e = some r) [] k70_14 ⟨fun j => (vs[j]?).getD .undef, fun _ => none, h0⟩) : callω fns 70 vs h0 = some r :=
  callω_run fns (af := af70) rfl rfl rfl rfl hl h
theorem run44 {vs : List AV} {h0 : H} (hl : vs.length ≤ 232) {r : AV × H} (h : GoC fns (fun e => xends [.cell 6 true 8, .tmp 7, .tmp 8] e = some r) [] k44_87 ⟨fun j => (vs[j]?).getD .undef, fun _ => none, h0⟩) : callω fns 44 vs h0 = some r :=
  callω_run fns (af := af44) rfl rfl rfl rfl hl h
theorem run16 {vs : List AV} {h0 : H} (hl : vs.length ≤ 13) {r : AV × H} (h : GoC fns (fun e => xends [.cell 4 true 8, .tmp 5, .tmp 6] e = some r) [] k16_1 ⟨fun j => (vs[j]?).getD .undef, fun _ => none, h0⟩) : callω fns 16 vs h0 = some r :=
  callω_run fns (af := af16) rfl rfl rfl rfl hl h
theorem run8 {vs : List AV} {h0 : H} (hl : vs.length ≤ 137) {r : AV × H} (h : GoC fns (fun e => xends [.cell 4 true 8, .tmp 5, .tmp 6] e = some r) [] k8_51 ⟨fun j => (vs[j]?).getD .undef, fun _ => none, h0⟩) : callω fns 8 vs h0 = some r :=
  callω_run fns (af := af8) rfl rfl rfl rfl hl h
theorem run7 {vs : List AV} {h0 : H} (hl : vs.length ≤ 33) {r : AV × H} (h : GoC fns (fun e => xends [.tmp 4] e = some r) [] k7_6 ⟨fun j => (vs[j]?).getD .undef, fun _ => none, h0⟩) : callω fns 7 vs h0 = some r :=
  callω_run fns (af := af7) rfl rfl rfl rfl hl h
theorem run17 {vs : List AV} {h0 : H} (hl : vs.length ≤ 17) {r : AV × H} (h : GoC fns (fun e => xends [.tmp 2] e = some r) [] k17_1 ⟨fun j => (vs[j]?).getD .undef, fun _ => none, h0⟩) : callω fns 17 vs h0 = some r :=
  callω_run fns (af := af17) rfl rfl rfl rfl hl h
theorem run9 {vs : List AV} {h0 : H} (hl : vs.length ≤ 21) {r : AV × H} (h : GoC fns (fun e => xends [.tmp 2] e = some r) [] k9_1 ⟨fun j => (vs[j]?).getD .undef, fun _ => none, h0⟩) : callω fns 9 vs h0 = some r :=
  callω_run fns (af := af9) rfl rfl rfl rfl hl h
theorem run11 {vs : List AV} {h0 : H} (hl : vs.length ≤ 6) {r : AV × H} (h : GoC fns (fun e => xends [.tmp 2] e = some r) [] k11_1 ⟨fun j => (vs[j]?).getD .undef, fun _ => none, h0⟩) : callω fns 11 vs h0 = some r :=
  callω_run fns (af := af11) rfl rfl rfl rfl hl h
theorem run18 {vs : List AV} {h0 : H} (hl : vs.length ≤ 9) {r : AV × H} (h : GoC fns (fun e => xends [.cell 2 true 2] e = some r) [] k18_1 ⟨fun j => (vs[j]?).getD .undef, fun _ => none, h0⟩) : callω fns 18 vs h0 = some r :=
  callω_run fns (af := af18) rfl rfl rfl rfl hl h
theorem run122 {vs : List AV} {h0 : H} (hl : vs.length ≤ 54) {r : AV × H} (h : GoC fns (fun e => xends [.tmp 4] e = some r) [] k122_2 ⟨fun j => (vs[j]?).getD .undef, fun _ => none, h0⟩) : callω fns 122 vs h0 = some r :=
  callω_run fns (af := af122) rfl rfl rfl rfl hl h
theorem run73 {vs : List AV} {h0 : H} (hl : vs.length ≤ 14) {r : AV × H} (h : GoC fns (fun e => xends [.tmp 2, .tmp 3, .tmp 4] e = some r) [] k73_5 ⟨fun j => (vs[j]?).getD .undef, fun _ => none, h0⟩) : callω fns 73 vs h0 = some r :=
  callω_run fns (af := af73) rfl rfl rfl rfl hl h
theorem run45 {vs : List AV} {h0 : H} (hl : vs.length ≤ 19) {r : AV × H} (h : GoC fns (fun e => xends [.tmp 2, .tmp 3, .tmp 4] e = some r) [] k45_6 ⟨fun j => (vs[j]?).getD .undef, fun _ => none, h0⟩) : callω fns 45 vs h0 = some r :=
  callω_run fns (af := af45) rfl rfl rfl rfl hl h
theorem run19 {vs : List AV} {h0 : H} (hl : vs.length ≤ 20) {r : AV × H} (h : GoC fns (fun e => xends [.tmp 2, .tmp 3] e = some r) [] k19_10 ⟨fun j => (vs[j]?).getD .undef, fun _ => none, h0⟩) : callω fns 19 vs h0 = some r :=
  callω_run fns (af := af19) rfl rfl rfl rfl hl h
theorem run80 {vs : List AV} {h0 : H} (hl : vs.length ≤ 38) {r : AV × H} (h : GoC fns (fun e => xends [.tmp 2, .tmp 3, .tmp 4] e = some r) [] k80_7 ⟨fun j => (vs[j]?).getD .undef, fun _ => none, h0⟩) : callω fns 80 vs h0 = some r :=
  callω_run fns (af := af80) rfl rfl rfl rfl hl h
theorem run77 {vs : List AV} {h0 : H} (hl : vs.length ≤ 20) {r : AV × H} (h : GoC fns (fun e => xends [.tmp 2, .tmp 3, .tmp 4] e = some r) [] k77_6 ⟨fun j => (vs[j]?).getD .undef, fun _ => none, h0⟩) : callω fns 77 vs h0 = some r :=
  callω_run fns (af := af77) rfl rfl rfl rfl hl h
theorem run75 {vs : List AV} {h0 : H} (hl : vs.length ≤ 36) {r : AV × H} (h : GoC fns (fun e => xends [.tmp 2, .tmp 3, .tmp 4] e = some r) [] k75_10 ⟨fun j => (vs[j]?).getD .undef, fun _ => none, h0⟩) : callω fns 75 vs h0 = some r :=
  callω_run fns (af := af75) rfl rfl rfl rfl hl h
theorem run46 {vs : List AV} {h0 : H} (hl : vs.length ≤ 10) {r : AV × H} (h : GoC fns (fun e => xends [.tmp 2, .tmp 3, .tmp 4] e = some r) [] k46_1 ⟨fun j => (vs[j]?).getD .undef, fun _ => none, h0⟩) : callω fns 46 vs h0 = some r :=
  callω_run fns (af := af46) rfl rfl rfl rfl hl h
theorem run21 {vs : List AV} {h0 : H} (hl : vs.length ≤ 20) {r : AV × H} (h : GoC fns (fun e => xends [.tmp 2, .tmp 3] e = some r) [] k21_10 ⟨fun j => (vs[j]?).getD .undef, fun _ => none, h0⟩) : callω fns 21 vs h0 = some r :=
  callω_run fns (af := af21) rfl rfl rfl rfl hl h
theorem run76 {vs : List AV} {h0 : H} (hl : vs.length ≤ 32) {r : AV × H} (h : GoC fns (fun e => xends [.tmp 2, .tmp 3, .tmp 4] e = some r) [] k76_14 ⟨fun j => (vs[j]?).getD .undef, fun _ => none, h0⟩) : callω fns 76 vs h0 = some r :=
  callω_run fns (af := af76) rfl rfl rfl rfl hl h
theorem run47 {vs : List AV} {h0 : H} (hl : vs.length ≤ 10) {r : AV × H} (h : GoC fns (fun e => xends [.tmp 2, .tmp 3, .tmp 4] e = some r) [] k47_1 ⟨fun j => (vs[j]?).getD .undef, fun _ => none, h0⟩) : callω fns 47 vs h0 = some r :=
  callω_run fns (af := af47) rfl rfl rfl rfl hl h
theorem run22 {vs : List AV} {h0 : H} (hl : vs.length ≤ 20) {r : AV × H} (h : GoC fns (fun e => xends [.tmp 2, .tmp 3] e = some r) [] k22_10 ⟨fun j => (vs[j]?).getD .undef, fun _ => none, h0⟩) : callω fns 22 vs h0 = some r :=
  callω_run fns (af := af22) rfl rfl rfl rfl hl h
theorem run23 {vs : List AV} {h0 : H} (hl : vs.length ≤ 5) {r : AV × H} (h : GoC fns (fun e => xends [.tmp 2] e = some r) [] k23_1 ⟨fun j => (vs[j]?).getD .undef, fun _ => none, h0⟩) : callω fns 23 vs h0 = some r :=
  callω_run fns (af := af23) rfl rfl rfl rfl hl h
theorem run48 {vs : List AV} {h0 : H} (hl : vs.length ≤ 10) {r : AV × H} (h : GoC fns (fun e => xends [.tmp 2, .tmp 3, .tmp 4] e = some r) [] k48_1 ⟨fun j => (vs[j]?).getD .undef, fun _ => none, h0⟩) : callω fns 48 vs h0 = some r :=
  callω_run fns (af := af48) rfl rfl rfl rfl hl h
theorem run24 {vs : List AV} {h0 : H} (hl : vs.length ≤ 20) {r : AV × H} (h : GoC fns (fun e => xends [.tmp 2, .tmp 3] e = some r) [] k24_10 ⟨fun j => (vs[j]?).getD .undef, fun _ => none, h0⟩) : callω fns 24 vs h0 = some r :=
  callω_run fns (af := af24) rfl rfl rfl rfl hl h
theorem run49 {vs : List AV} {h0 : H} (hl : vs.length ≤ 56) {r : AV × H} (h : GoC fns (fun e => xends [.tmp 2, .tmp 3, .tmp 4, .tmp 5] e = some r) [] k49_22 ⟨fun j => (vs[j]?).getD .undef, fun _ => none, h0⟩) : callω fns 49 vs h0 = some r :=
  callω_run fns (af := af49) rfl rfl rfl rfl hl h
theorem run25 {vs : List AV} {h0 : H} (hl : vs.length ≤ 20) {r : AV × H} (h : GoC fns (fun e => xends [.tmp 2, .tmp 3, .tmp 4] e = some r) [] k25_10 ⟨fun j => (vs[j]?).getD .undef, fun _ => none, h0⟩) : callω fns 25 vs h0 = some r :=
  callω_run fns (af := af25) rfl rfl rfl rfl hl h
theorem run26 {vs : List AV} {h0 : H} (hl : vs.length ≤ 22) {r : AV × H} (h : GoC fns (fun e => xends [.cell 2 true 12, .tmp 3] e = some r) [] k26_10 ⟨fun j => (vs[j]?).getD .undef, fun _ => none, h0⟩) : callω fns 26 vs h0 = some r :=
  callω_run fns (af := af26) rfl rfl rfl rfl hl h
theorem run51 {vs : List AV} {h0 : H} (hl : vs.length ≤ 15) {r : AV × H} (h : GoC fns (fun e => xends [.tmp 2, .tmp 3, .tmp 4] e = some r) [] k51_5 ⟨fun j => (vs[j]?).getD .undef, fun _ => none, h0⟩) : callω fns 51 vs h0 = some r :=
  callω_run fns (af := af51) rfl rfl rfl rfl hl h
theorem run27 {vs : List AV} {h0 : H} (hl : vs.length ≤ 20) {r : AV × H} (h : GoC fns (fun e => xends [.tmp 2, .tmp 3] e = some r) [] k27_10 ⟨fun j => (vs[j]?).getD .undef, fun _ => none, h0⟩) : callω fns 27 vs h0 = some r :=
  callω_run fns (af := af27) rfl rfl rfl rfl hl h
theorem run28 {vs : List AV} {h0 : H} (hl : vs.length ≤ 4) {r : AV × H} (h : GoC fns (fun e => xends [.tmp 2] e = some r) [] k28_5 ⟨fun j => (vs[j]?).getD .undef, fun _ => none, h0⟩) : callω fns 28 vs h0 = some r :=
  callω_run fns (af := af28) rfl rfl rfl rfl hl h
theorem run78 {vs : List AV} {h0 : H} (hl : vs.length ≤ 62) {r : AV × H} (h : GoC fns (fun e => xends [.tmp 2, .tmp 3, .tmp 4] e = some r) [] k78_7 ⟨fun j => (vs[j]?).getD .undef, fun _ => none, h0⟩) : callω fns 78 vs h0 = some r :=
  callω_run fns (af := af78) rfl rfl rfl rfl hl h
theorem run52 {vs : List AV} {h0 : H} (hl : vs.length ≤ 10) {r : AV × H} (h : GoC fns (fun e => xends [.tmp 2, .tmp 3, .tmp 4] e = some r) [] k52_1 ⟨fun j => (vs[j]?).getD .undef, fun _ => none, h0⟩) : callω fns 52 vs h0 = some r :=
  callω_run fns (af := af52) rfl rfl rfl rfl hl h
theorem run29 {vs : List AV} {h0 : H} (hl : vs.length ≤ 20) {r : AV × H} (h : GoC fns (fun e => xends [.tmp 2, .tmp 3] e = some r) [] k29_10 ⟨fun j => (vs[j]?).getD .undef, fun _ => none, h0⟩) : callω fns 29 vs h0 = some r :=
  callω_run fns (af := af29) rfl rfl rfl rfl hl h
theorem run155 {vs : List AV} {h0 : H} (hl : vs.length ≤ 8) {r : AV × H} (h : GoC fns (fun e => xends [.tmp 4] e = some r) [] k155_1 ⟨fun j => (vs[j]?).getD .undef, fun _ => none, h0⟩) : callω fns 155 vs h0 = some r :=
  callω_run fns (af := af155) rfl rfl rfl rfl hl h
theorem run123 {vs : List AV} {h0 : H} (hl : vs.length ≤ 18) {r : AV × H} (h : GoC fns (fun e => xends [.tmp 2, .tmp 3, .tmp 4] e = some r) [] k123_6 ⟨fun j => (vs[j]?).getD .undef, fun _ => none, h0⟩) : callω fns 123 vs h0 = some r :=
  callω_run fns (af := af123) rfl rfl rfl rfl hl h
theorem run79 {vs : List AV} {h0 : H} (hl : vs.length ≤ 20) {r : AV × H} (h : GoC fns (fun e => xends [.tmp 2, .tmp 3, .tmp 4] e = some r) [] k79_6 ⟨fun j => (vs[j]?).getD .undef, fun _ => none, h0⟩) : callω fns 79 vs h0 = some r :=
  callω_run fns (af := af79) rfl rfl rfl rfl hl h
theorem run53 {vs : List AV} {h0 : H} (hl : vs.length ≤ 27) {r : AV × H} (h : GoC fns (fun e => xends [.tmp 2, .tmp 3, .tmp 4, .tmp 5] e = some r) [] k53_11 ⟨fun j => (vs[j]?).getD .undef, fun _ => none, h0⟩) : callω fns 53 vs h0 = some r :=
  callω_run fns (af := af53) rfl rfl rfl rfl hl h
theorem run30 {vs : List AV} {h0 : H} (hl : vs.length ≤ 20) {r : AV × H} (h : GoC fns (fun e => xends [.tmp 2, .tmp 3, .tmp 4] e = some r) [] k30_10 ⟨fun j => (vs[j]?).getD .undef, fun _ => none, h0⟩) : callω fns 30 vs h0 = some r :=
  callω_run fns (af := af30) rfl rfl rfl rfl hl h
theorem run54 {vs : List AV} {h0 : H} (hl : vs.length ≤ 29) {r : AV × H} (h : GoC fns (fun e => xends [.tmp 2, .cell 3 true 12, .tmp 4, .tmp 5] e = some r) [] k54_11 ⟨fun j => (vs[j]?).getD .undef, fun _ => none, h0⟩) : callω fns 54 vs h0 = some r :=
  callω_run fns (af := af54) rfl rfl rfl rfl hl h
theorem run31 {vs : List AV} {h0 : H} (hl : vs.length ≤ 26) {r : AV × H} (h : GoC fns (fun e => xends [.tmp 2, .cell 3 true 12, .tmp 4] e = some r) [] k31_10 ⟨fun j => (vs[j]?).getD .undef, fun _ => none, h0⟩) : callω fns 31 vs h0 = some r :=
  callω_run fns (af := af31) rfl rfl rfl rfl hl h
theorem run55 {vs : List AV} {h0 : H} (hl : vs.length ≤ 10) {r : AV × H} (h : GoC fns (fun e => xends [.tmp 2, .tmp 3, .tmp 4] e = some r) [] k55_1 ⟨fun j => (vs[j]?).getD .undef, fun _ => none, h0⟩) : callω fns 55 vs h0 = some r :=
  callω_run fns (af := af55) rfl rfl rfl rfl hl h
theorem run32 {vs : List AV} {h0 : H} (hl : vs.length ≤ 20) {r : AV × H} (h : GoC fns (fun e => xends [.tmp 2, .tmp 3] e = some r) [] k32_10 ⟨fun j => (vs[j]?).getD .undef, fun _ => none, h0⟩) : callω fns 32 vs h0 = some r :=
  callω_run fns (af := af32) rfl rfl rfl rfl hl h
theorem run56 {vs : List AV} {h0 : H} (hl : vs.length ≤ 10) {r : AV × H} (h : GoC fns (fun e => xends [.tmp 2, .tmp 3, .tmp 4] e = some r) [] k56_1 ⟨fun j => (vs[j]?).getD .undef, fun _ => none, h0⟩) : callω fns 56 vs h0 = some r :=
  callω_run fns (af := af56) rfl rfl rfl rfl hl h
theorem run33 {vs : List AV} {h0 : H} (hl : vs.length ≤ 20) {r : AV × H} (h : GoC fns (fun e => xends [.tmp 2, .tmp 3] e = some r) [] k33_10 ⟨fun j => (vs[j]?).getD .undef, fun _ => none, h0⟩) : callω fns 33 vs h0 = some r :=
  callω_run fns (af := af33) rfl rfl rfl rfl hl h
theorem run57 {vs : List AV} {h0 : H} (hl : vs.length ≤ 44) {r : AV × H} (h : GoC fns (fun e => xends [.tmp 2, .tmp 3, .tmp 4, .tmp 5] e = some r) [] k57_16 ⟨fun j => (vs[j]?).getD .undef, fun _ => none, h0⟩) : callω fns 57 vs h0 = some r :=
  callω_run fns (af := af57) rfl rfl rfl rfl hl h
theorem run34 {vs : List AV} {h0 : H} (hl : vs.length ≤ 24) {r : AV × H} (h : GoC fns (fun e => xends [.tmp 2, .tmp 3, .tmp 4] e = some r) [] k34_10 ⟨fun j => (vs[j]?).getD .undef, fun _ => none, h0⟩) : callω fns 34 vs h0 = some r :=
  callω_run fns (af := af34) rfl rfl rfl rfl hl h
theorem run58 {vs : List AV} {h0 : H} (hl : vs.length ≤ 10) {r : AV × H} (h : GoC fns (fun e => xends [.tmp 2, .tmp 3, .tmp 4] e = some r) [] k58_1 ⟨fun j => (vs[j]?).getD .undef, fun _ => none, h0⟩) : callω fns 58 vs h0 = some r :=
  callω_run fns (af := af58) rfl rfl rfl rfl hl h
theorem run35 {vs : List AV} {h0 : H} (hl : vs.length ≤ 20) {r : AV × H} (h : GoC fns (fun e => xends [.tmp 2, .tmp 3] e = some r) [] k35_10 ⟨fun j => (vs[j]?).getD .undef, fun _ => none, h0⟩) : callω fns 35 vs h0 = some r :=
  callω_run fns (af := af35) rfl rfl rfl rfl hl h
theorem run124 {vs : List AV} {h0 : H} (hl : vs.length ≤ 30) {r : AV × H} (h : GoC fns (fun e => xends [.tmp 4] e = some r) [] k124_2 ⟨fun j => (vs[j]?).getD .undef, fun _ => none, h0⟩) : callω fns 124 vs h0 = some r :=
  callω_run fns (af := af124) rfl rfl rfl rfl hl h
theorem run81 {vs : List AV} {h0 : H} (hl : vs.length ≤ 14) {r : AV × H} (h : GoC fns (fun e => xends [.tmp 2, .tmp 3, .tmp 4] e = some r) [] k81_5 ⟨fun j => (vs[j]?).getD .undef, fun _ => none, h0⟩) : callω fns 81 vs h0 = some r :=
  callω_run fns (af := af81) rfl rfl rfl rfl hl h
theorem run59 {vs : List AV} {h0 : H} (hl : vs.length ≤ 27) {r : AV × H} (h : GoC fns (fun e => xends [.tmp 2, .tmp 3, .tmp 4, .tmp 5] e = some r) [] k59_11 ⟨fun j => (vs[j]?).getD .undef, fun _ => none, h0⟩) : callω fns 59 vs h0 = some r :=
  callω_run fns (af := af59) rfl rfl rfl rfl hl h
theorem run36 {vs : List AV} {h0 : H} (hl : vs.length ≤ 20) {r : AV × H} (h : GoC fns (fun e => xends [.tmp 2, .tmp 3, .tmp 4] e = some r) [] k36_10 ⟨fun j => (vs[j]?).getD .undef, fun _ => none, h0⟩) : callω fns 36 vs h0 = some r :=
  callω_run fns (af := af36) rfl rfl rfl rfl hl h
theorem run60 {vs : List AV} {h0 : H} (hl : vs.length ≤ 10) {r : AV × H} (h : GoC fns (fun e => xends [.tmp 2, .tmp 3, .tmp 4] e = some r) [] k60_1 ⟨fun j => (vs[j]?).getD .undef, fun _ => none, h0⟩) : callω fns 60 vs h0 = some r :=
  callω_run fns (af := af60) rfl rfl rfl rfl hl h
theorem run37 {vs : List AV} {h0 : H} (hl : vs.length ≤ 20) {r : AV × H} (h : GoC fns (fun e => xends [.tmp 2, .tmp 3] e = some r) [] k37_10 ⟨fun j => (vs[j]?).getD .undef, fun _ => none, h0⟩) : callω fns 37 vs h0 = some r :=
  callω_run fns (af := af37) rfl rfl rfl rfl hl h
theorem run61 {vs : List AV} {h0 : H} (hl : vs.length ≤ 27) {r : AV × H} (h : GoC fns (fun e => xends [.tmp 2, .tmp 3, .tmp 4, .tmp 5] e = some r) [] k61_11 ⟨fun j => (vs[j]?).getD .undef, fun _ => none, h0⟩) : callω fns 61 vs h0 = some r :=
  callω_run fns (af := af61) rfl rfl rfl rfl hl h
theorem run38 {vs : List AV} {h0 : H} (hl : vs.length ≤ 24) {r : AV × H} (h : GoC fns (fun e => xends [.tmp 2, .tmp 3, .tmp 4] e = some r) [] k38_10 ⟨fun j => (vs[j]?).getD .undef, fun _ => none, h0⟩) : callω fns 38 vs h0 = some r :=
  callω_run fns (af := af38) rfl rfl rfl rfl hl h
theorem run10 {vs : List AV} {h0 : H} (hl : vs.length ≤ 203) {r : AV × H} (h : GoC fns (fun e => xends [.cell 4 true 8, .tmp 5] e = some r) [] k10_81 ⟨fun j => (vs[j]?).getD .undef, fun _ => none, h0⟩) : callω fns 10 vs h0 = some r :=
  callω_run fns (af := af10) rfl rfl rfl rfl hl h
theorem run160 {vs : List AV} {h0 : H} (hl : vs.length ≤ 12) {r : AV × H} (h : GoC fns (fun e => xends [.tmp 2, .tmp 3] e = some r) [] k160_2 ⟨fun j => (vs[j]?).getD .undef, fun _ => none, h0⟩) : callω fns 160 vs h0 = some r :=
  callω_run fns (af := af160) rfl rfl rfl rfl hl h
theorem run125 {vs : List AV} {h0 : H} (hl : vs.length ≤ 8) {r : AV × H} (h : GoC fns (fun e => xends [.tmp 2, .tmp 3] e = some r) [] k125_1 ⟨fun j => (vs[j]?).getD .undef, fun _ => none, h0⟩) : callω fns 125 vs h0 = some r :=
  callω_run fns (af := af125) rfl rfl rfl rfl hl h
theorem run82 {vs : List AV} {h0 : H} (hl : vs.length ≤ 26) {r : AV × H} (h : GoC fns (fun e => xends [.tmp 2] e = some r) [] k82_4 ⟨fun j => (vs[j]?).getD .undef, fun _ => none, h0⟩) : callω fns 82 vs h0 = some r :=
  callω_run fns (af := af82) rfl rfl rfl rfl hl h
theorem run62 {vs : List AV} {h0 : H} (hl : vs.length ≤ 4) {r : AV × H} (h : GoC fns (fun e => xends [.tmp 0] e = some r) [] k62_1 ⟨fun j => (vs[j]?).getD .undef, fun _ => none, h0⟩) : callω fns 62 vs h0 = some r :=
  callω_run fns (af := af62) rfl rfl rfl rfl hl h
theorem run215 {vs : List AV} {h0 : H} (hl : vs.length ≤ 35) {r : AV × H} (h : GoC fns (fun e => xends [.tmp 4] e = some r) [] k215_18 ⟨fun j => (vs[j]?).getD .undef, fun _ => none, h0⟩) : callω fns 215 vs h0 = some r :=
  callω_run fns (af := af215) rfl rfl rfl rfl hl h
theorem run206 {vs : List AV} {h0 : H} (hl : vs.length ≤ 9) {r : AV × H} (h : GoC fns (fun e => xends [.tmp 4] e = some r) [] k206_1 ⟨fun j => (vs[j]?).getD .undef, fun _ => none, h0⟩) : callω fns 206 vs h0 = some r :=
  callω_run fns (af := af206) rfl rfl rfl rfl hl h
theorem run163 {vs : List AV} {h0 : H} (hl : vs.length ≤ 6) {r : AV × H} (h : GoC fns (fun e => xends [.tmp 2] e = some r) [] k163_1 ⟨fun j => (vs[j]?).getD .undef, fun _ => none, h0⟩) : callω fns 163 vs h0 = some r :=
  callω_run fns (af := af163) rfl rfl rfl rfl hl h
theorem run164 {vs : List AV} {h0 : H} (hl : vs.length ≤ 9) {r : AV × H} (h : GoC fns (fun e => xends [.tmp 4] e = some r) [] k164_1 ⟨fun j => (vs[j]?).getD .undef, fun _ => none, h0⟩) : callω fns 164 vs h0 = some r :=
  callω_run fns (af := af164) rfl rfl rfl rfl hl h
theorem run128 {vs : List AV} {h0 : H} (hl : vs.length ≤ 20) {r : AV × H} (h : GoC fns (fun e => xends [.tmp 6] e = some r) [] k128_7 ⟨fun j => (vs[j]?).getD .undef, fun _ => none, h0⟩) : callω fns 128 vs h0 = some r :=
  callω_run fns (af := af128) rfl rfl rfl rfl hl h
theorem run213 {vs : List AV} {h0 : H} (hl : vs.length ≤ 19) {r : AV × H} (h : GoC fns (fun e => xends [.tmp 4] e = some r) [] k213_1 ⟨fun j => (vs[j]?).getD .undef, fun _ => none, h0⟩) : callω fns 213 vs h0 = some r :=
  callω_run fns (af := af213) rfl rfl rfl rfl hl h
theorem run198 {vs : List AV} {h0 : H} (hl : vs.length ≤ 8) {r : AV × H} (h : GoC fns (fun e => xends [.tmp 4] e = some r) [] k198_1 ⟨fun j => (vs[j]?).getD .undef, fun _ => none, h0⟩) : callω fns 198 vs h0 = some r :=
  callω_run fns (af := af198) rfl rfl rfl rfl hl h
theorem run144 {vs : List AV} {h0 : H} (hl : vs.length ≤ 12) {r : AV × H} (h : GoC fns (fun e => xends [.tmp 6] e = some r) [] k144_1 ⟨fun j => (vs[j]?).getD .undef, fun _ => none, h0⟩) : callω fns 144 vs h0 = some r :=
  callω_run fns (af := af144) rfl rfl rfl rfl hl h
theorem run102 {vs : List AV} {h0 : H} (hl : vs.length ≤ 18) {r : AV × H} (h : GoC fns (fun e => xends [.tmp 6] e = some r) [] k102_2 ⟨fun j => (vs[j]?).getD .undef, fun _ => none, h0⟩) : callω fns 102 vs h0 = some r :=
  callω_run fns (af := af102) rfl rfl rfl rfl hl h
theorem run63 {vs : List AV} {h0 : H} (hl : vs.length ≤ 206) {r : AV × H} (h : GoC fns (fun e => xends [] e = some r) [] k63_79 ⟨fun j => (vs[j]?).getD .undef, fun _ => none, h0⟩) : callω fns 63 vs h0 = some r :=
  callω_run fns (af := af63) rfl rfl rfl rfl hl h
theorem run202 {vs : List AV} {h0 : H} (hl : vs.length ≤ 28) {r : AV × H} (h : GoC fns (fun e => xends [] e = some r) [] k202_5 ⟨fun j => (vs[j]?).getD .undef, fun _ => none, h0⟩) : callω fns 202 vs h0 = some r :=
  callω_run fns (af := af202) rfl rfl rfl rfl hl h
theorem run108 {vs : List AV} {h0 : H} (hl : vs.length ≤ 26) {r : AV × H} (h : GoC fns (fun e => xends [.tmp 4, .tmp 5] e = some r) [] k108_7 ⟨fun j => (vs[j]?).getD .undef, fun _ => none, h0⟩) : callω fns 108 vs h0 = some r :=
  callω_run fns (af := af108) rfl rfl rfl rfl hl h
theorem run64 {vs : List AV} {h0 : H} (hl : vs.length ≤ 41) {r : AV × H} (h : GoC fns (fun e => xends [.tmp 2] e = some r) [] k64_4 ⟨fun j => (vs[j]?).getD .undef, fun _ => none, h0⟩) : callω fns 64 vs h0 = some r :=
  callω_run fns (af := af64) rfl rfl rfl rfl hl h
theorem run152 {vs : List AV} {h0 : H} (hl : vs.length ≤ 94) {r : AV × H} (h : GoC fns (fun e => xends [.tmp 4, .tmp 5] e = some r) [] k152_81 ⟨fun j => (vs[j]?).getD .undef, fun _ => none, h0⟩) : callω fns 152 vs h0 = some r :=
  callω_run fns (af := af152) rfl rfl rfl rfl hl h
theorem run109 {vs : List AV} {h0 : H} (hl : vs.length ≤ 31) {r : AV × H} (h : GoC fns (fun e => xends [.tmp 4, .tmp 5, .tmp 6] e = some r) [] k109_6 ⟨fun j => (vs[j]?).getD .undef, fun _ => none, h0⟩) : callω fns 109 vs h0 = some r :=
  callω_run fns (af := af109) rfl rfl rfl rfl hl h
theorem run65 {vs : List AV} {h0 : H} (hl : vs.length ≤ 25) {r : AV × H} (h : GoC fns (fun e => xends [.cell 4 true 2, .tmp 5, .tmp 6] e = some r) [] k65_6 ⟨fun j => (vs[j]?).getD .undef, fun _ => none, h0⟩) : callω fns 65 vs h0 = some r :=
  callω_run fns (af := af65) rfl rfl rfl rfl hl h
theorem run40 {vs : List AV} {h0 : H} (hl : vs.length ≤ 229) {r : AV × H} (h : GoC fns (fun e => xends [.cell 4 true 8, .tmp 5, .tmp 6] e = some r) [] k40_80 ⟨fun j => (vs[j]?).getD .undef, fun _ => none, h0⟩) : callω fns 40 vs h0 = some r :=
  callω_run fns (af := af40) rfl rfl rfl rfl hl h
theorem run110 {vs : List AV} {h0 : H} (hl : vs.length ≤ 8) {r : AV × H} (h : GoC fns (fun e => xends [.cell 4 true 2] e = some r) [] k110_1 ⟨fun j => (vs[j]?).getD .undef, fun _ => none, h0⟩) : callω fns 110 vs h0 = some r :=
  callω_run fns (af := af110) rfl rfl rfl rfl hl h
theorem run111 {vs : List AV} {h0 : H} (hl : vs.length ≤ 63) {r : AV × H} (h : GoC fns (fun e => xends [.tmp 2, .tmp 3, .tmp 4] e = some r) [] k111_31 ⟨fun j => (vs[j]?).getD .undef, fun _ => none, h0⟩) : callω fns 111 vs h0 = some r :=
  callω_run fns (af := af111) rfl rfl rfl rfl hl h
theorem run153 {vs : List AV} {h0 : H} (hl : vs.length ≤ 19) {r : AV × H} (h : GoC fns (fun e => xends [.tmp 2, .tmp 3] e = some r) [] k153_10 ⟨fun j => (vs[j]?).getD .undef, fun _ => none, h0⟩) : callω fns 153 vs h0 = some r :=
  callω_run fns (af := af153) rfl rfl rfl rfl hl h
theorem run112 {vs : List AV} {h0 : H} (hl : vs.length ≤ 11) {r : AV × H} (h : GoC fns (fun e => xends [.tmp 2] e = some r) [] k112_2 ⟨fun j => (vs[j]?).getD .undef, fun _ => none, h0⟩) : callω fns 112 vs h0 = some r :=
  callω_run fns (af := af112) rfl rfl rfl rfl hl h
theorem run117 {vs : List AV} {h0 : H} (hl : vs.length ≤ 40) {r : AV × H} (h : GoC fns (fun e => xends [.cell 2 true 2, .tmp 3] e = some r) [] k117_15 ⟨fun j => (vs[j]?).getD .undef, fun _ => none, h0⟩) : callω fns 117 vs h0 = some r :=
  callω_run fns (af := af117) rfl rfl rfl rfl hl h
theorem run113 {vs : List AV} {h0 : H} (hl : vs.length ≤ 11) {r : AV × H} (h : GoC fns (fun e => xends [.cell 2 true 2] e = some r) [] k113_2 ⟨fun j => (vs[j]?).getD .undef, fun _ => none, h0⟩) : callω fns 113 vs h0 = some r :=
  callω_run fns (af := af113) rfl rfl rfl rfl hl h
theorem run114 {vs : List AV} {h0 : H} (hl : vs.length ≤ 29) {r : AV × H} (h : GoC fns (fun e => xends [.tmp 2] e = some r) [] k114_10 ⟨fun j => (vs[j]?).getD .undef, fun _ => none, h0⟩) : callω fns 114 vs h0 = some r :=
  callω_run fns (af := af114) rfl rfl rfl rfl hl h
theorem run115 {vs : List AV} {h0 : H} (hl : vs.length ≤ 29) {r : AV × H} (h : GoC fns (fun e => xends [.tmp 2] e = some r) [] k115_10 ⟨fun j => (vs[j]?).getD .undef, fun _ => none, h0⟩) : callω fns 115 vs h0 = some r :=
  callω_run fns (af := af115) rfl rfl rfl rfl hl h
theorem run154 {vs : List AV} {h0 : H} (hl : vs.length ≤ 14) {r : AV × H} (h : GoC fns (fun e => xends [.tmp 2, .tmp 3] e = some r) [] k154_2 ⟨fun j => (vs[j]?).getD .undef, fun _ => none, h0⟩) : callω fns 154 vs h0 = some r :=
  callω_run fns (af := af154) rfl rfl rfl rfl hl h
theorem run116 {vs : List AV} {h0 : H} (hl : vs.length ≤ 11) {r : AV × H} (h : GoC fns (fun e => xends [.tmp 2] e = some r) [] k116_2 ⟨fun j => (vs[j]?).getD .undef, fun _ => none, h0⟩) : callω fns 116 vs h0 = some r :=
  callω_run fns (af := af116) rfl rfl rfl rfl hl h
theorem run66 {vs : List AV} {h0 : H} (hl : vs.length ≤ 113) {r : AV × H} (h : GoC fns (fun e => xends [.cell 4 true 2, .tmp 5] e = some r) [] k66_53 ⟨fun j => (vs[j]?).getD .undef, fun _ => none, h0⟩) : callω fns 66 vs h0 = some r :=
  callω_run fns (af := af66) rfl rfl rfl rfl hl h
theorem run67 {vs : List AV} {h0 : H} (hl : vs.length ≤ 10) {r : AV × H} (h : GoC fns (fun e => xends [.cell 2 true 2] e = some r) [] k67_1 ⟨fun j => (vs[j]?).getD .undef, fun _ => none, h0⟩) : callω fns 67 vs h0 = some r :=
  callω_run fns (af := af67) rfl rfl rfl rfl hl h
theorem run68 {vs : List AV} {h0 : H} (hl : vs.length ≤ 42) {r : AV × H} (h : GoC fns (fun e => xends [.tmp 2] e = some r) [] k68_47 ⟨fun j => (vs[j]?).getD .undef, fun _ => none, h0⟩) : callω fns 68 vs h0 = some r :=
  callω_run fns (af := af68) rfl rfl rfl rfl hl h
theorem run41 {vs : List AV} {h0 : H} (hl : vs.length ≤ 18) {r : AV × H} (h : GoC fns (fun e => xends [.cell 4 true 2, .tmp 5] e = some r) [] k41_2 ⟨fun j => (vs[j]?).getD .undef, fun _ => none, h0⟩) : callω fns 41 vs h0 = some r :=
  callω_run fns (af := af41) rfl rfl rfl rfl hl h
theorem run158 {vs : List AV} {h0 : H} (hl : vs.length ≤ 10) {r : AV × H} (h : GoC fns (fun e => xends [.tmp 6] e = some r) [] k158_1 ⟨fun j => (vs[j]?).getD .undef, fun _ => none, h0⟩) : callω fns 158 vs h0 = some r :=
  callω_run fns (af := af158) rfl rfl rfl rfl hl h
theorem run119 {vs : List AV} {h0 : H} (hl : vs.length ≤ 8) {r : AV × H} (h : GoC fns (fun e => xends [.tmp 4] e = some r) [] k119_1 ⟨fun j => (vs[j]?).getD .undef, fun _ => none, h0⟩) : callω fns 119 vs h0 = some r :=
  callω_run fns (af := af119) rfl rfl rfl rfl hl h
theorem run159 {vs : List AV} {h0 : H} (hl : vs.length ≤ 23) {r : AV × H} (h : GoC fns (fun e => xends [.tmp 2] e = some r) [] k159_6 ⟨fun j => (vs[j]?).getD .undef, fun _ => none, h0⟩) : callω fns 159 vs h0 = some r :=
  callω_run fns (af := af159) rfl rfl rfl rfl hl h
theorem run120 {vs : List AV} {h0 : H} (hl : vs.length ≤ 23) {r : AV × H} (h : GoC fns (fun e => xends [.tmp 2] e = some r) [] k120_10 ⟨fun j => (vs[j]?).getD .undef, fun _ => none, h0⟩) : callω fns 120 vs h0 = some r :=
  callω_run fns (af := af120) rfl rfl rfl rfl hl h
theorem run69 {vs : List AV} {h0 : H} (hl : vs.length ≤ 76) {r : AV × H} (h : GoC fns (fun e => xends [.tmp 2] e = some r) [] k69_42 ⟨fun j => (vs[j]?).getD .undef, fun _ => none, h0⟩) : callω fns 69 vs h0 = some r :=
  callω_run fns (af := af69) rfl rfl rfl rfl hl h
theorem run42 {vs : List AV} {h0 : H} (hl : vs.length ≤ 6) {r : AV × H} (h : GoC fns (fun e => xends [.tmp 2] e = some r) [] k42_1 ⟨fun j => (vs[j]?).getD .undef, fun _ => none, h0⟩) : callω fns 42 vs h0 = some r :=
  callω_run fns (af := af42) rfl rfl rfl rfl hl h
theorem run12 {vs : List AV} {h0 : H} (hl : vs.length ≤ 60) {r : AV × H} (h : GoC fns (fun e => xends [.tmp 0] e = some r) [] k12_4 ⟨fun j => (vs[j]?).getD .undef, fun _ => none, h0⟩) : callω fns 12 vs h0 = some r :=
  callω_run fns (af := af12) rfl rfl rfl rfl hl h
theorem run13 {vs : List AV} {h0 : H} (hl : vs.length ≤ 100) {r : AV × H} (h : GoC fns (fun e => xends [.tmp 4] e = some r) [] k13_19 ⟨fun j => (vs[j]?).getD .undef, fun _ => none, h0⟩) : callω fns 13 vs h0 = some r :=
  callω_run fns (af := af13) rfl rfl rfl rfl hl h
theorem runs3 {vs : List AV} {h0 : H} (hl : vs.length ≤ 80) {p : AV × H → Prop} (h : GoC fns (fun e => Run (xends [.tmp 4] e) p) [] k3_12 ⟨fun j => (vs[j]?).getD .undef, fun _ => none, h0⟩) : CW fns 3 vs h0 p :=
  callω_runs fns (af := af3) rfl rfl rfl rfl hl h

theorem runv50 {vs : List AV} {h0 : H} (hl : vs.length ≤ 22) {v : AV} (h : GoC fns (fun e => Run (xends [.cell 2 true 12, .tmp 3, .tmp 4] e) fun q => noHeap h0.n q = some v) [] k50_8 ⟨fun j => (vs[j]?).getD .undef, fun _ => none, h0⟩) : callv fns 50 vs h0 = some v :=
  callω_runv fns (af := af50) rfl rfl rfl rfl hl h
theorem runv10 {vs : List AV} {h0 : H} (hl : vs.length ≤ 203) {v : AV} (h : GoC fns (fun e => Run (xends [.cell 4 true 8, .tmp 5] e) fun q => noHeap h0.n q = some v) [] k10_81 ⟨fun j => (vs[j]?).getD .undef, fun _ => none, h0⟩) : callv fns 10 vs h0 = some v :=
  callω_runv fns (af := af10) rfl rfl rfl rfl hl h
theorem runv151 {vs : List AV} {h0 : H} (hl : vs.length ≤ 15) {v : AV} (h : GoC fns (fun e => Run (xends [.tmp 6] e) fun q => noHeap h0.n q = some v) [] k151_2 ⟨fun j => (vs[j]?).getD .undef, fun _ => none, h0⟩) : callv fns 151 vs h0 = some v :=
  callω_runv fns (af := af151) rfl rfl rfl rfl hl h
theorem runv39 {vs : List AV} {h0 : H} (hl : vs.length ≤ 10) {v : AV} (h : GoC fns (fun e => Run (xends [.tmp 2] e) fun q => noHeap h0.n q = some v) [] k39_3 ⟨fun j => (vs[j]?).getD .undef, fun _ => none, h0⟩) : callv fns 39 vs h0 = some v :=
  callω_runv fns (af := af39) rfl rfl rfl rfl hl h
def OkF (f : FuncId) (af : AFunc) : Prop := ∃ fn, Tryz.prog.funcs[f]? = some fn ∧ (fn.name == "runtime.NumGoroutine") = false ∧ (∃ hs, pFunc Tryz.prog sg hs fn = some ⟨af.n, af.code, af.res, fun _ _ => none⟩) ∧ XOk Tryz.prog f af.x
def OkL : List (FuncId × AFunc) → Prop
  | [] => True
  | (f, af) :: r => OkF f af ∧ OkL r
theorem okL_lookup : ∀ {l : List (FuncId × AFunc)} {f : FuncId} {af : AFunc}, OkL l → l.lookup f = some af → OkF f af
  | [], _, _, _, h => by cases h
  | (g, ag) :: r, f, af, hl, h => by
    rw [List.lookup_cons] at h
    split at h
    · rename_i hb; injection h with h; subst h; have := beq_iff_eq.1 hb; subst this; exact hl.1
    · exact okL_lookup hl.2 h
theorem fnsOk : FnsOk Tryz.prog sg fns := fun f af h => okL_lookup (l := fnsL) ⟨⟨Tryz.f4, Tryz.func4, by kernel_rfl, ok4, xok_none _ _⟩, ⟨Tryz.f5, Tryz.func5, by kernel_rfl, ok5, xok_none _ _⟩, ⟨Tryz.f6, Tryz.func6, by kernel_rfl, ok6, xok_none _ _⟩, ⟨Tryz.f15, Tryz.func15, by kernel_rfl, ok15, xok_none _ _⟩, ⟨Tryz.f43, Tryz.func43, by kernel_rfl, ok43, xok_none _ _⟩, ⟨Tryz.f14, Tryz.func14, by kernel_rfl, ok14, xok_none _ _⟩, ⟨Tryz.f70, Tryz.func70, by kernel_rfl, ok70, xok_none _ _⟩, ⟨Tryz.f44, Tryz.func44, by kernel_rfl, ok44, xok_none _ _⟩, ⟨Tryz.f16, Tryz.func16, by kernel_rfl, ok16, xok_none _ _⟩, ⟨Tryz.f8, Tryz.func8, by kernel_rfl, ok8, xok_none _ _⟩, ⟨Tryz.f7, Tryz.func7, by kernel_rfl, ok7, xok_none _ _⟩, ⟨Tryz.f17, Tryz.func17, by kernel_rfl, ok17, xok_none _ _⟩, ⟨Tryz.f9, Tryz.func9, by kernel_rfl, ok9, xok_none _ _⟩, ⟨Tryz.f11, Tryz.func11, by kernel_rfl, ok11, xok_none _ _⟩, ⟨Tryz.f18, Tryz.func18, by kernel_rfl, ok18, xok_none _ _⟩, ⟨Tryz.f122, Tryz.func122, by kernel_rfl, ok122, xok_none _ _⟩, ⟨Tryz.f73, Tryz.func73, by kernel_rfl, ok73, xok_none _ _⟩, ⟨Tryz.f45, Tryz.func45, by kernel_rfl, ok45, xok_none _ _⟩, ⟨Tryz.f19, Tryz.func19, by kernel_rfl, ok19, xok_none _ _⟩, ⟨Tryz.f80, Tryz.func80, by kernel_rfl, ok80, xok_none _ _⟩, ⟨Tryz.f77, Tryz.func77, by kernel_rfl, ok77, xok_none _ _⟩, ⟨Tryz.f75, Tryz.func75, by kernel_rfl, ok75, xok_none _ _⟩, ⟨Tryz.f46, Tryz.func46, by kernel_rfl, ok46, xok_none _ _⟩, ⟨Tryz.f21, Tryz.func21, by kernel_rfl, ok21, xok_none _ _⟩, ⟨Tryz.f76, Tryz.func76, by kernel_rfl, ok76, xok_none _ _⟩, ⟨Tryz.f47, Tryz.func47, by kernel_rfl, ok47, xok_none _ _⟩, ⟨Tryz.f22, Tryz.func22, by kernel_rfl, ok22, xok_none _ _⟩, ⟨Tryz.f23, Tryz.func23, by kernel_rfl, ok23, xok_none _ _⟩, ⟨Tryz.f48, Tryz.func48, by kernel_rfl, ok48, xok_none _ _⟩, ⟨Tryz.f24, Tryz.func24, by kernel_rfl, ok24, xok_none _ _⟩, ⟨Tryz.f49, Tryz.func49, by kernel_rfl, ok49, xok_none _ _⟩, ⟨Tryz.f25, Tryz.func25, by kernel_rfl, ok25, xok_none _ _⟩, ⟨Tryz.f50, Tryz.func50, by kernel_rfl, ok50, xok_none _ _⟩, ⟨Tryz.f26, Tryz.func26, by kernel_rfl, ok26, xok_none _ _⟩, ⟨Tryz.f51, Tryz.func51, by kernel_rfl, ok51, xok_none _ _⟩, ⟨Tryz.f27, Tryz.func27, by kernel_rfl, ok27, xok_none _ _⟩, ⟨Tryz.f28, Tryz.func28, by kernel_rfl, ok28, xok_none _ _⟩, ⟨Tryz.f78, Tryz.func78, by kernel_rfl, ok78, xok_none _ _⟩, ⟨Tryz.f52, Tryz.func52, by kernel_rfl, ok52, xok_none _ _⟩, ⟨Tryz.f29, Tryz.func29, by kernel_rfl, ok29, xok_none _ _⟩, ⟨Tryz.f155, Tryz.func155, by kernel_rfl, ok155, xok_none _ _⟩, ⟨Tryz.f123, Tryz.func123, by kernel_rfl, ok123, xok_none _ _⟩, ⟨Tryz.f79, Tryz.func79, by kernel_rfl, ok79, xok_none _ _⟩, ⟨Tryz.f53, Tryz.func53, by kernel_rfl, ok53, xok_none _ _⟩, ⟨Tryz.f30, Tryz.func30, by kernel_rfl, ok30, xok_none _ _⟩, ⟨Tryz.f54, Tryz.func54, by kernel_rfl, ok54, xok_none _ _⟩, ⟨Tryz.f31, Tryz.func31, by kernel_rfl, ok31, xok_none _ _⟩, ⟨Tryz.f55, Tryz.func55, by kernel_rfl, ok55, xok_none _ _⟩, ⟨Tryz.f32, Tryz.func32, by kernel_rfl, ok32, xok_none _ _⟩, ⟨Tryz.f56, Tryz.func56, by kernel_rfl, ok56, xok_none _ _⟩, ⟨Tryz.f33, Tryz.func33, by kernel_rfl, ok33, xok_none _ _⟩, ⟨Tryz.f57, Tryz.func57, by kernel_rfl, ok57, xok_none _ _⟩, ⟨Tryz.f34, Tryz.func34, by kernel_rfl, ok34, xok_none _ _⟩, ⟨Tryz.f58, Tryz.func58, by kernel_rfl, ok58, xok_none _ _⟩, ⟨Tryz.f35, Tryz.func35, by kernel_rfl, ok35, xok_none _ _⟩, ⟨Tryz.f124, Tryz.func124, by kernel_rfl, ok124, xok_none _ _⟩, ⟨Tryz.f81, Tryz.func81, by kernel_rfl, ok81, xok_none _ _⟩, ⟨Tryz.f59, Tryz.func59, by kernel_rfl, ok59, xok_none _ _⟩, ⟨Tryz.f36, Tryz.func36, by kernel_rfl, ok36, xok_none _ _⟩, ⟨Tryz.f60, Tryz.func60, by kernel_rfl, ok60, xok_none _ _⟩, ⟨Tryz.f37, Tryz.func37, by kernel_rfl, ok37, xok_none _ _⟩, ⟨Tryz.f61, Tryz.func61, by kernel_rfl, ok61, xok_none _ _⟩, ⟨Tryz.f38, Tryz.func38, by kernel_rfl, ok38, xok_none _ _⟩, ⟨Tryz.f10, Tryz.func10, by kernel_rfl, ok10, xok_none _ _⟩, ⟨Tryz.f160, Tryz.func160, by kernel_rfl, ok160, xok_none _ _⟩, ⟨Tryz.f125, Tryz.func125, by kernel_rfl, ok125, xok_none _ _⟩, ⟨Tryz.f82, Tryz.func82, by kernel_rfl, ok82, xok_none _ _⟩, ⟨Tryz.f62, Tryz.func62, by kernel_rfl, ok62, xok_none _ _⟩, ⟨Tryz.f215, Tryz.func215, by kernel_rfl, ok215, xok_none _ _⟩, ⟨Tryz.f206, Tryz.func206, by kernel_rfl, ok206, xok_none _ _⟩, ⟨Tryz.f163, Tryz.func163, by kernel_rfl, ok163, xok_none _ _⟩, ⟨Tryz.f164, Tryz.func164, by kernel_rfl, ok164, xok_none _ _⟩, ⟨Tryz.f128, Tryz.func128, by kernel_rfl, ok128, xok_none _ _⟩, ⟨Tryz.f213, Tryz.func213, by kernel_rfl, ok213, xok_none _ _⟩, ⟨Tryz.f198, Tryz.func198, by kernel_rfl, ok198, xok_none _ _⟩, ⟨Tryz.f144, Tryz.func144, by kernel_rfl, ok144, xok_none _ _⟩, ⟨Tryz.f102, Tryz.func102, by kernel_rfl, ok102, xok_none _ _⟩, ⟨Tryz.f63, Tryz.func63, by kernel_rfl, ok63, xok_none _ _⟩, ⟨Tryz.f150, Tryz.func150, by kernel_rfl, ok150, xok_none _ _⟩, ⟨Tryz.f202, Tryz.func202, by kernel_rfl, ok202, xok_none _ _⟩, ⟨Tryz.f151, Tryz.func151, by kernel_rfl, ok151, xok_none _ _⟩, ⟨Tryz.f108, Tryz.func108, by kernel_rfl, ok108, xok_none _ _⟩, ⟨Tryz.f64, Tryz.func64, by kernel_rfl, ok64, xok_none _ _⟩, ⟨Tryz.f39, Tryz.func39, by kernel_rfl, ok39, xok_none _ _⟩, ⟨Tryz.f152, Tryz.func152, by kernel_rfl, ok152, xok_none _ _⟩, ⟨Tryz.f109, Tryz.func109, by kernel_rfl, ok109, xok_none _ _⟩, ⟨Tryz.f65, Tryz.func65, by kernel_rfl, ok65, xok_none _ _⟩, ⟨Tryz.f40, Tryz.func40, by kernel_rfl, ok40, xok_none _ _⟩, ⟨Tryz.f110, Tryz.func110, by kernel_rfl, ok110, xok_none _ _⟩, ⟨Tryz.f111, Tryz.func111, by kernel_rfl, ok111, xok_none _ _⟩, ⟨Tryz.f153, Tryz.func153, by kernel_rfl, ok153, xok_none _ _⟩, ⟨Tryz.f112, Tryz.func112, by kernel_rfl, ok112, xok_none _ _⟩, ⟨Tryz.f117, Tryz.func117, by kernel_rfl, ok117, xok_none _ _⟩, ⟨Tryz.f113, Tryz.func113, by kernel_rfl, ok113, xok_none _ _⟩, ⟨Tryz.f114, Tryz.func114, by kernel_rfl, ok114, xok_none _ _⟩, ⟨Tryz.f115, Tryz.func115, by kernel_rfl, ok115, xok_none _ _⟩, ⟨Tryz.f154, Tryz.func154, by kernel_rfl, ok154, xok_none _ _⟩, ⟨Tryz.f116, Tryz.func116, by kernel_rfl, ok116, xok_none _ _⟩, ⟨Tryz.f66, Tryz.func66, by kernel_rfl, ok66, xok_none _ _⟩, ⟨Tryz.f67, Tryz.func67, by kernel_rfl, ok67, xok_none _ _⟩, ⟨Tryz.f118, Tryz.func118, by kernel_rfl, ok118, xok_is⟩, ⟨Tryz.f68, Tryz.func68, by kernel_rfl, ok68, xok_none _ _⟩, ⟨Tryz.f41, Tryz.func41, by kernel_rfl, ok41, xok_none _ _⟩, ⟨Tryz.f158, Tryz.func158, by kernel_rfl, ok158, xok_none _ _⟩, ⟨Tryz.f119, Tryz.func119, by kernel_rfl, ok119, xok_none _ _⟩, ⟨Tryz.f159, Tryz.func159, by kernel_rfl, ok159, xok_none _ _⟩, ⟨Tryz.f120, Tryz.func120, by kernel_rfl, ok120, xok_none _ _⟩, ⟨Tryz.f69, Tryz.func69, by kernel_rfl, ok69, xok_none _ _⟩, ⟨Tryz.f42, Tryz.func42, by kernel_rfl, ok42, xok_none _ _⟩, ⟨Tryz.f12, Tryz.func12, by kernel_rfl, ok12, xok_none _ _⟩, ⟨Tryz.f13, Tryz.func13, by kernel_rfl, ok13, xok_none _ _⟩, ⟨Tryz.f3, Tryz.func3, by kernel_rfl, ok3, xok_none _ _⟩, trivial⟩ h
end Go.Proofs.YticoldgiebmmgaaGreatDoor.Abs
