/- The functions that the law reaches, made ready for the interpreter (printed by a program of this session; the kernel compares each with the given program). -/
import Derived.Test.YtcodfehgnjplcaaGreatDoorFDocVP2
namespace Go.Proofs.YtcodfehgnjplcaaGreatDoor.Abs
set_option linter.all false
set_option maxRecDepth 100000
def fnsL : List (FuncId × AFunc) := [(15, af15), (11, af11), (63, af63), (60, af60), (16, af16), (13, af13), (140, af140), (54, af54), (220, af220), (164, af164), (163, af163), (61, af61), (55, af55), (62, af62), (17, af17), (18, af18), (64, af64), (19, af19), (262, af262), (229, af229), (180, af180), (141, af141), (316, af316), (307, af307), (265, af265), (266, af266), (232, af232), (314, af314), (300, af300), (248, af248), (201, af201), (142, af142), (173, af173), (304, af304), (254, af254), (207, af207), (143, af143), (56, af56), (210, af210), (146, af146), (147, af147), (87, af87), (157, af157), (57, af57), (166, af166), (258, af258), (214, af214), (218, af218), (170, af170), (215, af215), (216, af216), (259, af259), (217, af217), (161, af161), (165, af165), (65, af65), (58, af58), (260, af260), (219, af219), (67, af67), (172, af172), (162, af162), (59, af59), (14, af14), (20, af20), (66, af66), (21, af21), (4, af4), (171, af171), (78, af78), (79, af79), (28, af28), (80, af80), (29, af29), (168, af168), (81, af81), (74, af74), (30, af30), (73, af73), (25, af25), (6, af6)]
def fns : FuncId → Option AFunc := fun f => fnsL.lookup f
theorem run15 {vs : List AV} {h0 : H} (hl : vs.length ≤ 6) {r : AV × H} (h : GoC fns (fun e => xends [.tmp 2] e = some r) [] k15_1 ⟨fun j => (vs[j]?).getD .undef, fun _ => none, h0⟩) : callω fns 15 vs h0 = some r :=
  callω_run fns (af := af15) rfl rfl rfl rfl hl h
theorem runs15 {vs : List AV} {h0 : H} (hl : vs.length ≤ 6) {p : AV × H → Prop} (h : GoC fns (fun e => Run (xends [.tmp 2] e) p) [] k15_1 ⟨fun j => (vs[j]?).getD .undef, fun _ => none, h0⟩) : CW fns 15 vs h0 p :=
  callω_runs fns (af := af15) rfl rfl rfl rfl hl h
theorem run11 {vs : List AV} {h0 : H} (hl : vs.length ≤ 31) {r : AV × H} (h : GoC fns (fun e => xends [.tmp 2, .tmp 3] e = some r) [] k11_5 ⟨fun j => (vs[j]?).getD .undef, fun _ => none, h0⟩) : callω fns 11 vs h0 = some r :=
  callω_run fns (af := af11) rfl rfl rfl rfl hl h
theorem runs11 {vs : List AV} {h0 : H} (hl : vs.length ≤ 31) {p : AV × H → Prop} (h : GoC fns (fun e => Run (xends [.tmp 2, .tmp 3] e) p) [] k11_5 ⟨fun j => (vs[j]?).getD .undef, fun _ => none, h0⟩) : CW fns 11 vs h0 p :=
  callω_runs fns (af := af11) rfl rfl rfl rfl hl h
theorem run63 {vs : List AV} {h0 : H} (hl : vs.length ≤ 23) {r : AV × H} (h : GoC fns (fun e => xends [.tmp 2, .tmp 3, .tmp 4] e = some r) [] k63_15 ⟨fun j => (vs[j]?).getD .undef, fun _ => none, h0⟩) : callω fns 63 vs h0 = some r :=
  callω_run fns (af := af63) rfl rfl rfl rfl hl h
theorem runs63 {vs : List AV} {h0 : H} (hl : vs.length ≤ 23) {p : AV × H → Prop} (h : GoC fns (fun e => Run (xends [.tmp 2, .tmp 3, .tmp 4] e) p) [] k63_15 ⟨fun j => (vs[j]?).getD .undef, fun _ => none, h0⟩) : CW fns 63 vs h0 p :=
  callω_runs fns (af := af63) rfl rfl rfl rfl hl h
theorem run60 {vs : List AV} {h0 : H} (hl : vs.length ≤ 140) {r : AV × H} (h : GoC fns (fun e => xends [.tmp 4, .tmp 5] e = some r) [] k60_64 ⟨fun j => (vs[j]?).getD .undef, fun _ => none, h0⟩) : callω fns 60 vs h0 = some r :=
  callω_run fns (af := af60) rfl rfl rfl rfl hl h
theorem runs60 {vs : List AV} {h0 : H} (hl : vs.length ≤ 140) {p : AV × H → Prop} (h : GoC fns (fun e => Run (xends [.tmp 4, .tmp 5] e) p) [] k60_64 ⟨fun j => (vs[j]?).getD .undef, fun _ => none, h0⟩) : CW fns 60 vs h0 p :=
  callω_runs fns (af := af60) rfl rfl rfl rfl hl h
theorem run16 {vs : List AV} {h0 : H} (hl : vs.length ≤ 69) {r : AV × H} (h : GoC fns (fun e => xends [.tmp 4, .tmp 5] e = some r) [] k16_24 ⟨fun j => (vs[j]?).getD .undef, fun _ => none, h0⟩) : callω fns 16 vs h0 = some r :=
  callω_run fns (af := af16) rfl rfl rfl rfl hl h
theorem runs16 {vs : List AV} {h0 : H} (hl : vs.length ≤ 69) {p : AV × H → Prop} (h : GoC fns (fun e => Run (xends [.tmp 4, .tmp 5] e) p) [] k16_24 ⟨fun j => (vs[j]?).getD .undef, fun _ => none, h0⟩) : CW fns 16 vs h0 p :=
  callω_runs fns (af := af16) rfl rfl rfl rfl hl h
theorem run13 {vs : List AV} {h0 : H} (hl : vs.length ≤ 6) {r : AV × H} (h : GoC fns (fun e => xends [.tmp 2] e = some r) [] k13_1 ⟨fun j => (vs[j]?).getD .undef, fun _ => none, h0⟩) : callω fns 13 vs h0 = some r :=
  callω_run fns (af := af13) rfl rfl rfl rfl hl h
theorem runs13 {vs : List AV} {h0 : H} (hl : vs.length ≤ 6) {p : AV × H → Prop} (h : GoC fns (fun e => Run (xends [.tmp 2] e) p) [] k13_1 ⟨fun j => (vs[j]?).getD .undef, fun _ => none, h0⟩) : CW fns 13 vs h0 p :=
  callω_runs fns (af := af13) rfl rfl rfl rfl hl h
theorem run140 {vs : List AV} {h0 : H} (hl : vs.length ≤ 38) {r : AV × H} (h : GoC fns (fun e => xends [.tmp 2, .tmp 3, .tmp 4] e = some r) [] k140_7 ⟨fun j => (vs[j]?).getD .undef, fun _ => none, h0⟩) : callω fns 140 vs h0 = some r :=
  callω_run fns (af := af140) rfl rfl rfl rfl hl h
theorem runs140 {vs : List AV} {h0 : H} (hl : vs.length ≤ 38) {p : AV × H → Prop} (h : GoC fns (fun e => Run (xends [.tmp 2, .tmp 3, .tmp 4] e) p) [] k140_7 ⟨fun j => (vs[j]?).getD .undef, fun _ => none, h0⟩) : CW fns 140 vs h0 p :=
  callω_runs fns (af := af140) rfl rfl rfl rfl hl h
theorem run54 {vs : List AV} {h0 : H} (hl : vs.length ≤ 20) {r : AV × H} (h : GoC fns (fun e => xends [.tmp 2, .tmp 3, .tmp 4] e = some r) [] k54_6 ⟨fun j => (vs[j]?).getD .undef, fun _ => none, h0⟩) : callω fns 54 vs h0 = some r :=
  callω_run fns (af := af54) rfl rfl rfl rfl hl h
theorem runs54 {vs : List AV} {h0 : H} (hl : vs.length ≤ 20) {p : AV × H → Prop} (h : GoC fns (fun e => Run (xends [.tmp 2, .tmp 3, .tmp 4] e) p) [] k54_6 ⟨fun j => (vs[j]?).getD .undef, fun _ => none, h0⟩) : CW fns 54 vs h0 p :=
  callω_runs fns (af := af54) rfl rfl rfl rfl hl h
theorem run220 {vs : List AV} {h0 : H} (hl : vs.length ≤ 8) {r : AV × H} (h : GoC fns (fun e => xends [.tmp 4] e = some r) [] k220_1 ⟨fun j => (vs[j]?).getD .undef, fun _ => none, h0⟩) : callω fns 220 vs h0 = some r :=
  callω_run fns (af := af220) rfl rfl rfl rfl hl h
theorem runs220 {vs : List AV} {h0 : H} (hl : vs.length ≤ 8) {p : AV × H → Prop} (h : GoC fns (fun e => Run (xends [.tmp 4] e) p) [] k220_1 ⟨fun j => (vs[j]?).getD .undef, fun _ => none, h0⟩) : CW fns 220 vs h0 p :=
  callω_runs fns (af := af220) rfl rfl rfl rfl hl h
theorem run164 {vs : List AV} {h0 : H} (hl : vs.length ≤ 94) {r : AV × H} (h : GoC fns (fun e => xends [.tmp 4, .tmp 5] e = some r) [] k164_81 ⟨fun j => (vs[j]?).getD .undef, fun _ => none, h0⟩) : callω fns 164 vs h0 = some r :=
  callω_run fns (af := af164) rfl rfl rfl rfl hl h
theorem runs164 {vs : List AV} {h0 : H} (hl : vs.length ≤ 94) {p : AV × H → Prop} (h : GoC fns (fun e => Run (xends [.tmp 4, .tmp 5] e) p) [] k164_81 ⟨fun j => (vs[j]?).getD .undef, fun _ => none, h0⟩) : CW fns 164 vs h0 p :=
  callω_runs fns (af := af164) rfl rfl rfl rfl hl h
theorem run163 {vs : List AV} {h0 : H} (hl : vs.length ≤ 31) {r : AV × H} (h : GoC fns (fun e => xends [.tmp 4, .tmp 5, .tmp 6] e = some r) [] k163_6 ⟨fun j => (vs[j]?).getD .undef, fun _ => none, h0⟩) : callω fns 163 vs h0 = some r :=
  callω_run fns (af := af163) rfl rfl rfl rfl hl h
theorem runs163 {vs : List AV} {h0 : H} (hl : vs.length ≤ 31) {p : AV × H → Prop} (h : GoC fns (fun e => Run (xends [.tmp 4, .tmp 5, .tmp 6] e) p) [] k163_6 ⟨fun j => (vs[j]?).getD .undef, fun _ => none, h0⟩) : CW fns 163 vs h0 p :=
  callω_runs fns (af := af163) rfl rfl rfl rfl hl h
theorem run61 {vs : List AV} {h0 : H} (hl : vs.length ≤ 25) {r : AV × H} (h : GoC fns (fun e => xends [.cell 4 true 2, .tmp 5, .tmp 6] e = some r) [] k61_6 ⟨fun j => (vs[j]?).getD .undef, fun _ => none, h0⟩) : callω fns 61 vs h0 = some r :=
  callω_run fns (af := af61) rfl rfl rfl rfl hl h
theorem runs61 {vs : List AV} {h0 : H} (hl : vs.length ≤ 25) {p : AV × H → Prop} (h : GoC fns (fun e => Run (xends [.cell 4 true 2, .tmp 5, .tmp 6] e) p) [] k61_6 ⟨fun j => (vs[j]?).getD .undef, fun _ => none, h0⟩) : CW fns 61 vs h0 p :=
  callω_runs fns (af := af61) rfl rfl rfl rfl hl h
theorem run55 {vs : List AV} {h0 : H} (hl : vs.length ≤ 5) {r : AV × H} (h : GoC fns (fun e => xends [.tmp 2] e = some r) [] k55_1 ⟨fun j => (vs[j]?).getD .undef, fun _ => none, h0⟩) : callω fns 55 vs h0 = some r :=
  callω_run fns (af := af55) rfl rfl rfl rfl hl h
theorem runs55 {vs : List AV} {h0 : H} (hl : vs.length ≤ 5) {p : AV × H → Prop} (h : GoC fns (fun e => Run (xends [.tmp 2] e) p) [] k55_1 ⟨fun j => (vs[j]?).getD .undef, fun _ => none, h0⟩) : CW fns 55 vs h0 p :=
  callω_runs fns (af := af55) rfl rfl rfl rfl hl h
theorem run62 {vs : List AV} {h0 : H} (hl : vs.length ≤ 10) {r : AV × H} (h : GoC fns (fun e => xends [.cell 2 true 2] e = some r) [] k62_1 ⟨fun j => (vs[j]?).getD .undef, fun _ => none, h0⟩) : callω fns 62 vs h0 = some r :=
  callω_run fns (af := af62) rfl rfl rfl rfl hl h
theorem runs62 {vs : List AV} {h0 : H} (hl : vs.length ≤ 10) {p : AV × H → Prop} (h : GoC fns (fun e => Run (xends [.cell 2 true 2] e) p) [] k62_1 ⟨fun j => (vs[j]?).getD .undef, fun _ => none, h0⟩) : CW fns 62 vs h0 p :=
  callω_runs fns (af := af62) rfl rfl rfl rfl hl h
theorem run17 {vs : List AV} {h0 : H} (hl : vs.length ≤ 21) {r : AV × H} (h : GoC fns (fun e => xends [.cell 4 true 2, .tmp 5, .tmp 6] e = some r) [] k17_2 ⟨fun j => (vs[j]?).getD .undef, fun _ => none, h0⟩) : callω fns 17 vs h0 = some r :=
  callω_run fns (af := af17) rfl rfl rfl rfl hl h
theorem runs17 {vs : List AV} {h0 : H} (hl : vs.length ≤ 21) {p : AV × H → Prop} (h : GoC fns (fun e => Run (xends [.cell 4 true 2, .tmp 5, .tmp 6] e) p) [] k17_2 ⟨fun j => (vs[j]?).getD .undef, fun _ => none, h0⟩) : CW fns 17 vs h0 p :=
  callω_runs fns (af := af17) rfl rfl rfl rfl hl h
theorem run18 {vs : List AV} {h0 : H} (hl : vs.length ≤ 38) {r : AV × H} (h : GoC fns (fun e => xends [.tmp 2, .tmp 3] e = some r) [] k18_11 ⟨fun j => (vs[j]?).getD .undef, fun _ => none, h0⟩) : callω fns 18 vs h0 = some r :=
  callω_run fns (af := af18) rfl rfl rfl rfl hl h
theorem runs18 {vs : List AV} {h0 : H} (hl : vs.length ≤ 38) {p : AV × H → Prop} (h : GoC fns (fun e => Run (xends [.tmp 2, .tmp 3] e) p) [] k18_11 ⟨fun j => (vs[j]?).getD .undef, fun _ => none, h0⟩) : CW fns 18 vs h0 p :=
  callω_runs fns (af := af18) rfl rfl rfl rfl hl h
theorem run64 {vs : List AV} {h0 : H} (hl : vs.length ≤ 63) {r : AV × H} (h : GoC fns (fun e => xends [.tmp 2, .tmp 3, .tmp 4] e = some r) [] k64_31 ⟨fun j => (vs[j]?).getD .undef, fun _ => none, h0⟩) : callω fns 64 vs h0 = some r :=
  callω_run fns (af := af64) rfl rfl rfl rfl hl h
theorem runs64 {vs : List AV} {h0 : H} (hl : vs.length ≤ 63) {p : AV × H → Prop} (h : GoC fns (fun e => Run (xends [.tmp 2, .tmp 3, .tmp 4] e) p) [] k64_31 ⟨fun j => (vs[j]?).getD .undef, fun _ => none, h0⟩) : CW fns 64 vs h0 p :=
  callω_runs fns (af := af64) rfl rfl rfl rfl hl h
theorem run19 {vs : List AV} {h0 : H} (hl : vs.length ≤ 17) {r : AV × H} (h : GoC fns (fun e => xends [.tmp 2, .tmp 3, .tmp 4] e = some r) [] k19_2 ⟨fun j => (vs[j]?).getD .undef, fun _ => none, h0⟩) : callω fns 19 vs h0 = some r :=
  callω_run fns (af := af19) rfl rfl rfl rfl hl h
theorem runs19 {vs : List AV} {h0 : H} (hl : vs.length ≤ 17) {p : AV × H → Prop} (h : GoC fns (fun e => Run (xends [.tmp 2, .tmp 3, .tmp 4] e) p) [] k19_2 ⟨fun j => (vs[j]?).getD .undef, fun _ => none, h0⟩) : CW fns 19 vs h0 p :=
  callω_runs fns (af := af19) rfl rfl rfl rfl hl h
theorem run262 {vs : List AV} {h0 : H} (hl : vs.length ≤ 12) {r : AV × H} (h : GoC fns (fun e => xends [.tmp 2, .tmp 3] e = some r) [] k262_2 ⟨fun j => (vs[j]?).getD .undef, fun _ => none, h0⟩) : callω fns 262 vs h0 = some r :=
  callω_run fns (af := af262) rfl rfl rfl rfl hl h
theorem runs262 {vs : List AV} {h0 : H} (hl : vs.length ≤ 12) {p : AV × H → Prop} (h : GoC fns (fun e => Run (xends [.tmp 2, .tmp 3] e) p) [] k262_2 ⟨fun j => (vs[j]?).getD .undef, fun _ => none, h0⟩) : CW fns 262 vs h0 p :=
  callω_runs fns (af := af262) rfl rfl rfl rfl hl h
theorem run229 {vs : List AV} {h0 : H} (hl : vs.length ≤ 8) {r : AV × H} (h : GoC fns (fun e => xends [.tmp 2, .tmp 3] e = some r) [] k229_1 ⟨fun j => (vs[j]?).getD .undef, fun _ => none, h0⟩) : callω fns 229 vs h0 = some r :=
  callω_run fns (af := af229) rfl rfl rfl rfl hl h
theorem runs229 {vs : List AV} {h0 : H} (hl : vs.length ≤ 8) {p : AV × H → Prop} (h : GoC fns (fun e => Run (xends [.tmp 2, .tmp 3] e) p) [] k229_1 ⟨fun j => (vs[j]?).getD .undef, fun _ => none, h0⟩) : CW fns 229 vs h0 p :=
  callω_runs fns (af := af229) rfl rfl rfl rfl hl h
theorem run180 {vs : List AV} {h0 : H} (hl : vs.length ≤ 26) {r : AV × H} (h : GoC fns (fun e => xends [.tmp 2] e = some r) [] k180_4 ⟨fun j => (vs[j]?).getD .undef, fun _ => none, h0⟩) : callω fns 180 vs h0 = some r :=
  callω_run fns (af := af180) rfl rfl rfl rfl hl h
theorem runs180 {vs : List AV} {h0 : H} (hl : vs.length ≤ 26) {p : AV × H → Prop} (h : GoC fns (fun e => Run (xends [.tmp 2] e) p) [] k180_4 ⟨fun j => (vs[j]?).getD .undef, fun _ => none, h0⟩) : CW fns 180 vs h0 p :=
  callω_runs fns (af := af180) rfl rfl rfl rfl hl h
theorem run141 {vs : List AV} {h0 : H} (hl : vs.length ≤ 4) {r : AV × H} (h : GoC fns (fun e => xends [.tmp 0] e = some r) [] k141_1 ⟨fun j => (vs[j]?).getD .undef, fun _ => none, h0⟩) : callω fns 141 vs h0 = some r :=
  callω_run fns (af := af141) rfl rfl rfl rfl hl h
theorem runs141 {vs : List AV} {h0 : H} (hl : vs.length ≤ 4) {p : AV × H → Prop} (h : GoC fns (fun e => Run (xends [.tmp 0] e) p) [] k141_1 ⟨fun j => (vs[j]?).getD .undef, fun _ => none, h0⟩) : CW fns 141 vs h0 p :=
  callω_runs fns (af := af141) rfl rfl rfl rfl hl h
theorem run316 {vs : List AV} {h0 : H} (hl : vs.length ≤ 35) {r : AV × H} (h : GoC fns (fun e => xends [.tmp 4] e = some r) [] k316_18 ⟨fun j => (vs[j]?).getD .undef, fun _ => none, h0⟩) : callω fns 316 vs h0 = some r :=
  callω_run fns (af := af316) rfl rfl rfl rfl hl h
theorem runs316 {vs : List AV} {h0 : H} (hl : vs.length ≤ 35) {p : AV × H → Prop} (h : GoC fns (fun e => Run (xends [.tmp 4] e) p) [] k316_18 ⟨fun j => (vs[j]?).getD .undef, fun _ => none, h0⟩) : CW fns 316 vs h0 p :=
  callω_runs fns (af := af316) rfl rfl rfl rfl hl h
theorem run307 {vs : List AV} {h0 : H} (hl : vs.length ≤ 9) {r : AV × H} (h : GoC fns (fun e => xends [.tmp 4] e = some r) [] k307_1 ⟨fun j => (vs[j]?).getD .undef, fun _ => none, h0⟩) : callω fns 307 vs h0 = some r :=
  callω_run fns (af := af307) rfl rfl rfl rfl hl h
theorem runs307 {vs : List AV} {h0 : H} (hl : vs.length ≤ 9) {p : AV × H → Prop} (h : GoC fns (fun e => Run (xends [.tmp 4] e) p) [] k307_1 ⟨fun j => (vs[j]?).getD .undef, fun _ => none, h0⟩) : CW fns 307 vs h0 p :=
  callω_runs fns (af := af307) rfl rfl rfl rfl hl h
theorem run265 {vs : List AV} {h0 : H} (hl : vs.length ≤ 6) {r : AV × H} (h : GoC fns (fun e => xends [.tmp 2] e = some r) [] k265_1 ⟨fun j => (vs[j]?).getD .undef, fun _ => none, h0⟩) : callω fns 265 vs h0 = some r :=
  callω_run fns (af := af265) rfl rfl rfl rfl hl h
theorem runs265 {vs : List AV} {h0 : H} (hl : vs.length ≤ 6) {p : AV × H → Prop} (h : GoC fns (fun e => Run (xends [.tmp 2] e) p) [] k265_1 ⟨fun j => (vs[j]?).getD .undef, fun _ => none, h0⟩) : CW fns 265 vs h0 p :=
  callω_runs fns (af := af265) rfl rfl rfl rfl hl h
theorem run266 {vs : List AV} {h0 : H} (hl : vs.length ≤ 9) {r : AV × H} (h : GoC fns (fun e => xends [.tmp 4] e = some r) [] k266_1 ⟨fun j => (vs[j]?).getD .undef, fun _ => none, h0⟩) : callω fns 266 vs h0 = some r :=
  callω_run fns (af := af266) rfl rfl rfl rfl hl h
theorem runs266 {vs : List AV} {h0 : H} (hl : vs.length ≤ 9) {p : AV × H → Prop} (h : GoC fns (fun e => Run (xends [.tmp 4] e) p) [] k266_1 ⟨fun j => (vs[j]?).getD .undef, fun _ => none, h0⟩) : CW fns 266 vs h0 p :=
  callω_runs fns (af := af266) rfl rfl rfl rfl hl h
theorem run232 {vs : List AV} {h0 : H} (hl : vs.length ≤ 20) {r : AV × H} (h : GoC fns (fun e => xends [.tmp 6] e = some r) [] k232_7 ⟨fun j => (vs[j]?).getD .undef, fun _ => none, h0⟩) : callω fns 232 vs h0 = some r :=
  callω_run fns (af := af232) rfl rfl rfl rfl hl h
theorem runs232 {vs : List AV} {h0 : H} (hl : vs.length ≤ 20) {p : AV × H → Prop} (h : GoC fns (fun e => Run (xends [.tmp 6] e) p) [] k232_7 ⟨fun j => (vs[j]?).getD .undef, fun _ => none, h0⟩) : CW fns 232 vs h0 p :=
  callω_runs fns (af := af232) rfl rfl rfl rfl hl h
theorem run314 {vs : List AV} {h0 : H} (hl : vs.length ≤ 19) {r : AV × H} (h : GoC fns (fun e => xends [.tmp 4] e = some r) [] k314_1 ⟨fun j => (vs[j]?).getD .undef, fun _ => none, h0⟩) : callω fns 314 vs h0 = some r :=
  callω_run fns (af := af314) rfl rfl rfl rfl hl h
theorem runs314 {vs : List AV} {h0 : H} (hl : vs.length ≤ 19) {p : AV × H → Prop} (h : GoC fns (fun e => Run (xends [.tmp 4] e) p) [] k314_1 ⟨fun j => (vs[j]?).getD .undef, fun _ => none, h0⟩) : CW fns 314 vs h0 p :=
  callω_runs fns (af := af314) rfl rfl rfl rfl hl h
theorem run300 {vs : List AV} {h0 : H} (hl : vs.length ≤ 8) {r : AV × H} (h : GoC fns (fun e => xends [.tmp 4] e = some r) [] k300_1 ⟨fun j => (vs[j]?).getD .undef, fun _ => none, h0⟩) : callω fns 300 vs h0 = some r :=
  callω_run fns (af := af300) rfl rfl rfl rfl hl h
theorem runs300 {vs : List AV} {h0 : H} (hl : vs.length ≤ 8) {p : AV × H → Prop} (h : GoC fns (fun e => Run (xends [.tmp 4] e) p) [] k300_1 ⟨fun j => (vs[j]?).getD .undef, fun _ => none, h0⟩) : CW fns 300 vs h0 p :=
  callω_runs fns (af := af300) rfl rfl rfl rfl hl h
theorem run248 {vs : List AV} {h0 : H} (hl : vs.length ≤ 12) {r : AV × H} (h : GoC fns (fun e => xends [.tmp 6] e = some r) [] k248_1 ⟨fun j => (vs[j]?).getD .undef, fun _ => none, h0⟩) : callω fns 248 vs h0 = some r :=
  callω_run fns (af := af248) rfl rfl rfl rfl hl h
theorem runs248 {vs : List AV} {h0 : H} (hl : vs.length ≤ 12) {p : AV × H → Prop} (h : GoC fns (fun e => Run (xends [.tmp 6] e) p) [] k248_1 ⟨fun j => (vs[j]?).getD .undef, fun _ => none, h0⟩) : CW fns 248 vs h0 p :=
  callω_runs fns (af := af248) rfl rfl rfl rfl hl h
theorem run201 {vs : List AV} {h0 : H} (hl : vs.length ≤ 18) {r : AV × H} (h : GoC fns (fun e => xends [.tmp 6] e = some r) [] k201_2 ⟨fun j => (vs[j]?).getD .undef, fun _ => none, h0⟩) : callω fns 201 vs h0 = some r :=
  callω_run fns (af := af201) rfl rfl rfl rfl hl h
theorem runs201 {vs : List AV} {h0 : H} (hl : vs.length ≤ 18) {p : AV × H → Prop} (h : GoC fns (fun e => Run (xends [.tmp 6] e) p) [] k201_2 ⟨fun j => (vs[j]?).getD .undef, fun _ => none, h0⟩) : CW fns 201 vs h0 p :=
  callω_runs fns (af := af201) rfl rfl rfl rfl hl h
theorem run142 {vs : List AV} {h0 : H} (hl : vs.length ≤ 206) {r : AV × H} (h : GoC fns (fun e => xends [] e = some r) [] k142_79 ⟨fun j => (vs[j]?).getD .undef, fun _ => none, h0⟩) : callω fns 142 vs h0 = some r :=
  callω_run fns (af := af142) rfl rfl rfl rfl hl h
theorem runs142 {vs : List AV} {h0 : H} (hl : vs.length ≤ 206) {p : AV × H → Prop} (h : GoC fns (fun e => Run (xends [] e) p) [] k142_79 ⟨fun j => (vs[j]?).getD .undef, fun _ => none, h0⟩) : CW fns 142 vs h0 p :=
  callω_runs fns (af := af142) rfl rfl rfl rfl hl h
theorem run173 {vs : List AV} {h0 : H} (hl : vs.length ≤ 7) {r : AV × H} (h : GoC fns (fun e => xends [.tmp 2] e = some r) [] k173_1 ⟨fun j => (vs[j]?).getD .undef, fun _ => none, h0⟩) : callω fns 173 vs h0 = some r :=
  callω_run fns (af := af173) rfl rfl rfl rfl hl h
theorem runs173 {vs : List AV} {h0 : H} (hl : vs.length ≤ 7) {p : AV × H → Prop} (h : GoC fns (fun e => Run (xends [.tmp 2] e) p) [] k173_1 ⟨fun j => (vs[j]?).getD .undef, fun _ => none, h0⟩) : CW fns 173 vs h0 p :=
  callω_runs fns (af := af173) rfl rfl rfl rfl hl h
theorem run304 {vs : List AV} {h0 : H} (hl : vs.length ≤ 28) {r : AV × H} (h : GoC fns (fun e => xends [] e = some r) [] k304_5 ⟨fun j => (vs[j]?).getD .undef, fun _ => none, h0⟩) : callω fns 304 vs h0 = some r :=
  callω_run fns (af := af304) rfl rfl rfl rfl hl h
theorem runs304 {vs : List AV} {h0 : H} (hl : vs.length ≤ 28) {p : AV × H → Prop} (h : GoC fns (fun e => Run (xends [] e) p) [] k304_5 ⟨fun j => (vs[j]?).getD .undef, fun _ => none, h0⟩) : CW fns 304 vs h0 p :=
  callω_runs fns (af := af304) rfl rfl rfl rfl hl h
theorem run254 {vs : List AV} {h0 : H} (hl : vs.length ≤ 15) {r : AV × H} (h : GoC fns (fun e => xends [.tmp 6] e = some r) [] k254_2 ⟨fun j => (vs[j]?).getD .undef, fun _ => none, h0⟩) : callω fns 254 vs h0 = some r :=
  callω_run fns (af := af254) rfl rfl rfl rfl hl h
theorem runs254 {vs : List AV} {h0 : H} (hl : vs.length ≤ 15) {p : AV × H → Prop} (h : GoC fns (fun e => Run (xends [.tmp 6] e) p) [] k254_2 ⟨fun j => (vs[j]?).getD .undef, fun _ => none, h0⟩) : CW fns 254 vs h0 p :=
  callω_runs fns (af := af254) rfl rfl rfl rfl hl h
theorem run207 {vs : List AV} {h0 : H} (hl : vs.length ≤ 26) {r : AV × H} (h : GoC fns (fun e => xends [.tmp 4, .tmp 5] e = some r) [] k207_7 ⟨fun j => (vs[j]?).getD .undef, fun _ => none, h0⟩) : callω fns 207 vs h0 = some r :=
  callω_run fns (af := af207) rfl rfl rfl rfl hl h
theorem runs207 {vs : List AV} {h0 : H} (hl : vs.length ≤ 26) {p : AV × H → Prop} (h : GoC fns (fun e => Run (xends [.tmp 4, .tmp 5] e) p) [] k207_7 ⟨fun j => (vs[j]?).getD .undef, fun _ => none, h0⟩) : CW fns 207 vs h0 p :=
  callω_runs fns (af := af207) rfl rfl rfl rfl hl h
theorem run143 {vs : List AV} {h0 : H} (hl : vs.length ≤ 41) {r : AV × H} (h : GoC fns (fun e => xends [.tmp 2] e = some r) [] k143_4 ⟨fun j => (vs[j]?).getD .undef, fun _ => none, h0⟩) : callω fns 143 vs h0 = some r :=
  callω_run fns (af := af143) rfl rfl rfl rfl hl h
theorem runs143 {vs : List AV} {h0 : H} (hl : vs.length ≤ 41) {p : AV × H → Prop} (h : GoC fns (fun e => Run (xends [.tmp 2] e) p) [] k143_4 ⟨fun j => (vs[j]?).getD .undef, fun _ => none, h0⟩) : CW fns 143 vs h0 p :=
  callω_runs fns (af := af143) rfl rfl rfl rfl hl h
theorem run56 {vs : List AV} {h0 : H} (hl : vs.length ≤ 10) {r : AV × H} (h : GoC fns (fun e => xends [.tmp 2] e = some r) [] k56_3 ⟨fun j => (vs[j]?).getD .undef, fun _ => none, h0⟩) : callω fns 56 vs h0 = some r :=
  callω_run fns (af := af56) rfl rfl rfl rfl hl h
theorem runs56 {vs : List AV} {h0 : H} (hl : vs.length ≤ 10) {p : AV × H → Prop} (h : GoC fns (fun e => Run (xends [.tmp 2] e) p) [] k56_3 ⟨fun j => (vs[j]?).getD .undef, fun _ => none, h0⟩) : CW fns 56 vs h0 p :=
  callω_runs fns (af := af56) rfl rfl rfl rfl hl h
theorem run210 {vs : List AV} {h0 : H} (hl : vs.length ≤ 32) {r : AV × H} (h : GoC fns (fun e => xends [.tmp 2, .tmp 3, .tmp 4] e = some r) [] k210_14 ⟨fun j => (vs[j]?).getD .undef, fun _ => none, h0⟩) : callω fns 210 vs h0 = some r :=
  callω_run fns (af := af210) rfl rfl rfl rfl hl h
theorem runs210 {vs : List AV} {h0 : H} (hl : vs.length ≤ 32) {p : AV × H → Prop} (h : GoC fns (fun e => Run (xends [.tmp 2, .tmp 3, .tmp 4] e) p) [] k210_14 ⟨fun j => (vs[j]?).getD .undef, fun _ => none, h0⟩) : CW fns 210 vs h0 p :=
  callω_runs fns (af := af210) rfl rfl rfl rfl hl h
theorem run146 {vs : List AV} {h0 : H} (hl : vs.length ≤ 10) {r : AV × H} (h : GoC fns (fun e => xends [.tmp 2, .tmp 3, .tmp 4] e = some r) [] k146_1 ⟨fun j => (vs[j]?).getD .undef, fun _ => none, h0⟩) : callω fns 146 vs h0 = some r :=
  callω_run fns (af := af146) rfl rfl rfl rfl hl h
theorem runs146 {vs : List AV} {h0 : H} (hl : vs.length ≤ 10) {p : AV × H → Prop} (h : GoC fns (fun e => Run (xends [.tmp 2, .tmp 3, .tmp 4] e) p) [] k146_1 ⟨fun j => (vs[j]?).getD .undef, fun _ => none, h0⟩) : CW fns 146 vs h0 p :=
  callω_runs fns (af := af146) rfl rfl rfl rfl hl h
theorem run147 {vs : List AV} {h0 : H} (hl : vs.length ≤ 10) {r : AV × H} (h : GoC fns (fun e => xends [.tmp 2, .tmp 3, .tmp 4] e = some r) [] k147_1 ⟨fun j => (vs[j]?).getD .undef, fun _ => none, h0⟩) : callω fns 147 vs h0 = some r :=
  callω_run fns (af := af147) rfl rfl rfl rfl hl h
theorem runs147 {vs : List AV} {h0 : H} (hl : vs.length ≤ 10) {p : AV × H → Prop} (h : GoC fns (fun e => Run (xends [.tmp 2, .tmp 3, .tmp 4] e) p) [] k147_1 ⟨fun j => (vs[j]?).getD .undef, fun _ => none, h0⟩) : CW fns 147 vs h0 p :=
  callω_runs fns (af := af147) rfl rfl rfl rfl hl h
theorem run87 {vs : List AV} {h0 : H} (hl : vs.length ≤ 4) {r : AV × H} (h : GoC fns (fun e => xends [.tmp 2] e = some r) [] k87_5 ⟨fun j => (vs[j]?).getD .undef, fun _ => none, h0⟩) : callω fns 87 vs h0 = some r :=
  callω_run fns (af := af87) rfl rfl rfl rfl hl h
theorem runs87 {vs : List AV} {h0 : H} (hl : vs.length ≤ 4) {p : AV × H → Prop} (h : GoC fns (fun e => Run (xends [.tmp 2] e) p) [] k87_5 ⟨fun j => (vs[j]?).getD .undef, fun _ => none, h0⟩) : CW fns 87 vs h0 p :=
  callω_runs fns (af := af87) rfl rfl rfl rfl hl h
theorem run157 {vs : List AV} {h0 : H} (hl : vs.length ≤ 10) {r : AV × H} (h : GoC fns (fun e => xends [.tmp 2, .tmp 3, .tmp 4] e = some r) [] k157_1 ⟨fun j => (vs[j]?).getD .undef, fun _ => none, h0⟩) : callω fns 157 vs h0 = some r :=
  callω_run fns (af := af157) rfl rfl rfl rfl hl h
theorem runs157 {vs : List AV} {h0 : H} (hl : vs.length ≤ 10) {p : AV × H → Prop} (h : GoC fns (fun e => Run (xends [.tmp 2, .tmp 3, .tmp 4] e) p) [] k157_1 ⟨fun j => (vs[j]?).getD .undef, fun _ => none, h0⟩) : CW fns 157 vs h0 p :=
  callω_runs fns (af := af157) rfl rfl rfl rfl hl h
theorem run57 {vs : List AV} {h0 : H} (hl : vs.length ≤ 229) {r : AV × H} (h : GoC fns (fun e => xends [.cell 4 true 8, .tmp 5, .tmp 6] e = some r) [] k57_80 ⟨fun j => (vs[j]?).getD .undef, fun _ => none, h0⟩) : callω fns 57 vs h0 = some r :=
  callω_run fns (af := af57) rfl rfl rfl rfl hl h
theorem runs57 {vs : List AV} {h0 : H} (hl : vs.length ≤ 229) {p : AV × H → Prop} (h : GoC fns (fun e => Run (xends [.cell 4 true 8, .tmp 5, .tmp 6] e) p) [] k57_80 ⟨fun j => (vs[j]?).getD .undef, fun _ => none, h0⟩) : CW fns 57 vs h0 p :=
  callω_runs fns (af := af57) rfl rfl rfl rfl hl h
theorem run166 {vs : List AV} {h0 : H} (hl : vs.length ≤ 8) {r : AV × H} (h : GoC fns (fun e => xends [.cell 4 true 2] e = some r) [] k166_1 ⟨fun j => (vs[j]?).getD .undef, fun _ => none, h0⟩) : callω fns 166 vs h0 = some r :=
  callω_run fns (af := af166) rfl rfl rfl rfl hl h
theorem runs166 {vs : List AV} {h0 : H} (hl : vs.length ≤ 8) {p : AV × H → Prop} (h : GoC fns (fun e => Run (xends [.cell 4 true 2] e) p) [] k166_1 ⟨fun j => (vs[j]?).getD .undef, fun _ => none, h0⟩) : CW fns 166 vs h0 p :=
  callω_runs fns (af := af166) rfl rfl rfl rfl hl h
theorem run258 {vs : List AV} {h0 : H} (hl : vs.length ≤ 19) {r : AV × H} (h : GoC fns (fun e => xends [.tmp 2, .tmp 3] e = some r) [] k258_10 ⟨fun j => (vs[j]?).getD .undef, fun _ => none, h0⟩) : callω fns 258 vs h0 = some r :=
  callω_run fns (af := af258) rfl rfl rfl rfl hl h
theorem runs258 {vs : List AV} {h0 : H} (hl : vs.length ≤ 19) {p : AV × H → Prop} (h : GoC fns (fun e => Run (xends [.tmp 2, .tmp 3] e) p) [] k258_10 ⟨fun j => (vs[j]?).getD .undef, fun _ => none, h0⟩) : CW fns 258 vs h0 p :=
  callω_runs fns (af := af258) rfl rfl rfl rfl hl h
theorem run214 {vs : List AV} {h0 : H} (hl : vs.length ≤ 11) {r : AV × H} (h : GoC fns (fun e => xends [.tmp 2] e = some r) [] k214_2 ⟨fun j => (vs[j]?).getD .undef, fun _ => none, h0⟩) : callω fns 214 vs h0 = some r :=
  callω_run fns (af := af214) rfl rfl rfl rfl hl h
theorem runs214 {vs : List AV} {h0 : H} (hl : vs.length ≤ 11) {p : AV × H → Prop} (h : GoC fns (fun e => Run (xends [.tmp 2] e) p) [] k214_2 ⟨fun j => (vs[j]?).getD .undef, fun _ => none, h0⟩) : CW fns 214 vs h0 p :=
  callω_runs fns (af := af214) rfl rfl rfl rfl hl h
theorem run218 {vs : List AV} {h0 : H} (hl : vs.length ≤ 40) {r : AV × H} (h : GoC fns (fun e => xends [.cell 2 true 2, .tmp 3] e = some r) [] k218_15 ⟨fun j => (vs[j]?).getD .undef, fun _ => none, h0⟩) : callω fns 218 vs h0 = some r :=
  callω_run fns (af := af218) rfl rfl rfl rfl hl h
theorem runs218 {vs : List AV} {h0 : H} (hl : vs.length ≤ 40) {p : AV × H → Prop} (h : GoC fns (fun e => Run (xends [.cell 2 true 2, .tmp 3] e) p) [] k218_15 ⟨fun j => (vs[j]?).getD .undef, fun _ => none, h0⟩) : CW fns 218 vs h0 p :=
  callω_runs fns (af := af218) rfl rfl rfl rfl hl h
theorem run170 {vs : List AV} {h0 : H} (hl : vs.length ≤ 11) {r : AV × H} (h : GoC fns (fun e => xends [.cell 2 true 2] e = some r) [] k170_2 ⟨fun j => (vs[j]?).getD .undef, fun _ => none, h0⟩) : callω fns 170 vs h0 = some r :=
  callω_run fns (af := af170) rfl rfl rfl rfl hl h
theorem runs170 {vs : List AV} {h0 : H} (hl : vs.length ≤ 11) {p : AV × H → Prop} (h : GoC fns (fun e => Run (xends [.cell 2 true 2] e) p) [] k170_2 ⟨fun j => (vs[j]?).getD .undef, fun _ => none, h0⟩) : CW fns 170 vs h0 p :=
  callω_runs fns (af := af170) rfl rfl rfl rfl hl h
theorem run215 {vs : List AV} {h0 : H} (hl : vs.length ≤ 29) {r : AV × H} (h : GoC fns (fun e => xends [.tmp 2] e = some r) [] k215_10 ⟨fun j => (vs[j]?).getD .undef, fun _ => none, h0⟩) : callω fns 215 vs h0 = some r :=
  callω_run fns (af := af215) rfl rfl rfl rfl hl h
theorem runs215 {vs : List AV} {h0 : H} (hl : vs.length ≤ 29) {p : AV × H → Prop} (h : GoC fns (fun e => Run (xends [.tmp 2] e) p) [] k215_10 ⟨fun j => (vs[j]?).getD .undef, fun _ => none, h0⟩) : CW fns 215 vs h0 p :=
  callω_runs fns (af := af215) rfl rfl rfl rfl hl h
theorem run216 {vs : List AV} {h0 : H} (hl : vs.length ≤ 29) {r : AV × H} (h : GoC fns (fun e => xends [.tmp 2] e = some r) [] k216_10 ⟨fun j => (vs[j]?).getD .undef, fun _ => none, h0⟩) : callω fns 216 vs h0 = some r :=
  callω_run fns (af := af216) rfl rfl rfl rfl hl h
theorem runs216 {vs : List AV} {h0 : H} (hl : vs.length ≤ 29) {p : AV × H → Prop} (h : GoC fns (fun e => Run (xends [.tmp 2] e) p) [] k216_10 ⟨fun j => (vs[j]?).getD .undef, fun _ => none, h0⟩) : CW fns 216 vs h0 p :=
  callω_runs fns (af := af216) rfl rfl rfl rfl hl h
theorem run259 {vs : List AV} {h0 : H} (hl : vs.length ≤ 14) {r : AV × H} (h : GoC fns (fun e => xends [.tmp 2, .tmp 3] e = some r) [] k259_2 ⟨fun j => (vs[j]?).getD .undef, fun _ => none, h0⟩) : callω fns 259 vs h0 = some r :=
  callω_run fns (af := af259) rfl rfl rfl rfl hl h
theorem runs259 {vs : List AV} {h0 : H} (hl : vs.length ≤ 14) {p : AV × H → Prop} (h : GoC fns (fun e => Run (xends [.tmp 2, .tmp 3] e) p) [] k259_2 ⟨fun j => (vs[j]?).getD .undef, fun _ => none, h0⟩) : CW fns 259 vs h0 p :=
  callω_runs fns (af := af259) rfl rfl rfl rfl hl h
theorem run217 {vs : List AV} {h0 : H} (hl : vs.length ≤ 11) {r : AV × H} (h : GoC fns (fun e => xends [.tmp 2] e = some r) [] k217_2 ⟨fun j => (vs[j]?).getD .undef, fun _ => none, h0⟩) : callω fns 217 vs h0 = some r :=
  callω_run fns (af := af217) rfl rfl rfl rfl hl h
theorem runs217 {vs : List AV} {h0 : H} (hl : vs.length ≤ 11) {p : AV × H → Prop} (h : GoC fns (fun e => Run (xends [.tmp 2] e) p) [] k217_2 ⟨fun j => (vs[j]?).getD .undef, fun _ => none, h0⟩) : CW fns 217 vs h0 p :=
  callω_runs fns (af := af217) rfl rfl rfl rfl hl h
theorem run161 {vs : List AV} {h0 : H} (hl : vs.length ≤ 113) {r : AV × H} (h : GoC fns (fun e => xends [.cell 4 true 2, .tmp 5] e = some r) [] k161_53 ⟨fun j => (vs[j]?).getD .undef, fun _ => none, h0⟩) : callω fns 161 vs h0 = some r :=
  callω_run fns (af := af161) rfl rfl rfl rfl hl h
theorem runs161 {vs : List AV} {h0 : H} (hl : vs.length ≤ 113) {p : AV × H → Prop} (h : GoC fns (fun e => Run (xends [.cell 4 true 2, .tmp 5] e) p) [] k161_53 ⟨fun j => (vs[j]?).getD .undef, fun _ => none, h0⟩) : CW fns 161 vs h0 p :=
  callω_runs fns (af := af161) rfl rfl rfl rfl hl h
theorem run65 {vs : List AV} {h0 : H} (hl : vs.length ≤ 42) {r : AV × H} (h : GoC fns (fun e => xends [.tmp 2] e = some r) [] k65_47 ⟨fun j => (vs[j]?).getD .undef, fun _ => none, h0⟩) : callω fns 65 vs h0 = some r :=
  callω_run fns (af := af65) rfl rfl rfl rfl hl h
theorem runs65 {vs : List AV} {h0 : H} (hl : vs.length ≤ 42) {p : AV × H → Prop} (h : GoC fns (fun e => Run (xends [.tmp 2] e) p) [] k65_47 ⟨fun j => (vs[j]?).getD .undef, fun _ => none, h0⟩) : CW fns 65 vs h0 p :=
  callω_runs fns (af := af65) rfl rfl rfl rfl hl h
theorem run58 {vs : List AV} {h0 : H} (hl : vs.length ≤ 18) {r : AV × H} (h : GoC fns (fun e => xends [.cell 4 true 2, .tmp 5] e = some r) [] k58_2 ⟨fun j => (vs[j]?).getD .undef, fun _ => none, h0⟩) : callω fns 58 vs h0 = some r :=
  callω_run fns (af := af58) rfl rfl rfl rfl hl h
theorem runs58 {vs : List AV} {h0 : H} (hl : vs.length ≤ 18) {p : AV × H → Prop} (h : GoC fns (fun e => Run (xends [.cell 4 true 2, .tmp 5] e) p) [] k58_2 ⟨fun j => (vs[j]?).getD .undef, fun _ => none, h0⟩) : CW fns 58 vs h0 p :=
  callω_runs fns (af := af58) rfl rfl rfl rfl hl h
theorem run260 {vs : List AV} {h0 : H} (hl : vs.length ≤ 10) {r : AV × H} (h : GoC fns (fun e => xends [.tmp 6] e = some r) [] k260_1 ⟨fun j => (vs[j]?).getD .undef, fun _ => none, h0⟩) : callω fns 260 vs h0 = some r :=
  callω_run fns (af := af260) rfl rfl rfl rfl hl h
theorem runs260 {vs : List AV} {h0 : H} (hl : vs.length ≤ 10) {p : AV × H → Prop} (h : GoC fns (fun e => Run (xends [.tmp 6] e) p) [] k260_1 ⟨fun j => (vs[j]?).getD .undef, fun _ => none, h0⟩) : CW fns 260 vs h0 p :=
  callω_runs fns (af := af260) rfl rfl rfl rfl hl h
theorem run219 {vs : List AV} {h0 : H} (hl : vs.length ≤ 8) {r : AV × H} (h : GoC fns (fun e => xends [.tmp 4] e = some r) [] k219_1 ⟨fun j => (vs[j]?).getD .undef, fun _ => none, h0⟩) : callω fns 219 vs h0 = some r :=
  callω_run fns (af := af219) rfl rfl rfl rfl hl h
theorem runs219 {vs : List AV} {h0 : H} (hl : vs.length ≤ 8) {p : AV × H → Prop} (h : GoC fns (fun e => Run (xends [.tmp 4] e) p) [] k219_1 ⟨fun j => (vs[j]?).getD .undef, fun _ => none, h0⟩) : CW fns 219 vs h0 p :=
  callω_runs fns (af := af219) rfl rfl rfl rfl hl h
theorem run67 {vs : List AV} {h0 : H} (hl : vs.length ≤ 23) {r : AV × H} (h : GoC fns (fun e => xends [.tmp 2] e = some r) [] k67_6 ⟨fun j => (vs[j]?).getD .undef, fun _ => none, h0⟩) : callω fns 67 vs h0 = some r :=
  callω_run fns (af := af67) rfl rfl rfl rfl hl h
theorem runs67 {vs : List AV} {h0 : H} (hl : vs.length ≤ 23) {p : AV × H → Prop} (h : GoC fns (fun e => Run (xends [.tmp 2] e) p) [] k67_6 ⟨fun j => (vs[j]?).getD .undef, fun _ => none, h0⟩) : CW fns 67 vs h0 p :=
  callω_runs fns (af := af67) rfl rfl rfl rfl hl h
theorem run172 {vs : List AV} {h0 : H} (hl : vs.length ≤ 23) {r : AV × H} (h : GoC fns (fun e => xends [.tmp 2] e = some r) [] k172_10 ⟨fun j => (vs[j]?).getD .undef, fun _ => none, h0⟩) : callω fns 172 vs h0 = some r :=
  callω_run fns (af := af172) rfl rfl rfl rfl hl h
theorem runs172 {vs : List AV} {h0 : H} (hl : vs.length ≤ 23) {p : AV × H → Prop} (h : GoC fns (fun e => Run (xends [.tmp 2] e) p) [] k172_10 ⟨fun j => (vs[j]?).getD .undef, fun _ => none, h0⟩) : CW fns 172 vs h0 p :=
  callω_runs fns (af := af172) rfl rfl rfl rfl hl h
theorem run162 {vs : List AV} {h0 : H} (hl : vs.length ≤ 76) {r : AV × H} (h : GoC fns (fun e => xends [.tmp 2] e = some r) [] k162_42 ⟨fun j => (vs[j]?).getD .undef, fun _ => none, h0⟩) : callω fns 162 vs h0 = some r :=
  callω_run fns (af := af162) rfl rfl rfl rfl hl h
theorem runs162 {vs : List AV} {h0 : H} (hl : vs.length ≤ 76) {p : AV × H → Prop} (h : GoC fns (fun e => Run (xends [.tmp 2] e) p) [] k162_42 ⟨fun j => (vs[j]?).getD .undef, fun _ => none, h0⟩) : CW fns 162 vs h0 p :=
  callω_runs fns (af := af162) rfl rfl rfl rfl hl h
theorem run59 {vs : List AV} {h0 : H} (hl : vs.length ≤ 6) {r : AV × H} (h : GoC fns (fun e => xends [.tmp 2] e = some r) [] k59_1 ⟨fun j => (vs[j]?).getD .undef, fun _ => none, h0⟩) : callω fns 59 vs h0 = some r :=
  callω_run fns (af := af59) rfl rfl rfl rfl hl h
theorem runs59 {vs : List AV} {h0 : H} (hl : vs.length ≤ 6) {p : AV × H → Prop} (h : GoC fns (fun e => Run (xends [.tmp 2] e) p) [] k59_1 ⟨fun j => (vs[j]?).getD .undef, fun _ => none, h0⟩) : CW fns 59 vs h0 p :=
  callω_runs fns (af := af59) rfl rfl rfl rfl hl h
theorem run14 {vs : List AV} {h0 : H} (hl : vs.length ≤ 60) {r : AV × H} (h : GoC fns (fun e => xends [.tmp 0] e = some r) [] k14_4 ⟨fun j => (vs[j]?).getD .undef, fun _ => none, h0⟩) : callω fns 14 vs h0 = some r :=
  callω_run fns (af := af14) rfl rfl rfl rfl hl h
theorem runs14 {vs : List AV} {h0 : H} (hl : vs.length ≤ 60) {p : AV × H → Prop} (h : GoC fns (fun e => Run (xends [.tmp 0] e) p) [] k14_4 ⟨fun j => (vs[j]?).getD .undef, fun _ => none, h0⟩) : CW fns 14 vs h0 p :=
  callω_runs fns (af := af14) rfl rfl rfl rfl hl h
theorem run20 {vs : List AV} {h0 : H} (hl : vs.length ≤ 19) {r : AV × H} (h : GoC fns (fun e => xends [.tmp 6] e = some r) [] k20_1 ⟨fun j => (vs[j]?).getD .undef, fun _ => none, h0⟩) : callω fns 20 vs h0 = some r :=
  callω_run fns (af := af20) rfl rfl rfl rfl hl h
theorem runs20 {vs : List AV} {h0 : H} (hl : vs.length ≤ 19) {p : AV × H → Prop} (h : GoC fns (fun e => Run (xends [.tmp 6] e) p) [] k20_1 ⟨fun j => (vs[j]?).getD .undef, fun _ => none, h0⟩) : CW fns 20 vs h0 p :=
  callω_runs fns (af := af20) rfl rfl rfl rfl hl h
theorem run66 {vs : List AV} {h0 : H} (hl : vs.length ≤ 9) {r : AV × H} (h : GoC fns (fun e => xends [.cell 2 true 2] e = some r) [] k66_1 ⟨fun j => (vs[j]?).getD .undef, fun _ => none, h0⟩) : callω fns 66 vs h0 = some r :=
  callω_run fns (af := af66) rfl rfl rfl rfl hl h
theorem runs66 {vs : List AV} {h0 : H} (hl : vs.length ≤ 9) {p : AV × H → Prop} (h : GoC fns (fun e => Run (xends [.cell 2 true 2] e) p) [] k66_1 ⟨fun j => (vs[j]?).getD .undef, fun _ => none, h0⟩) : CW fns 66 vs h0 p :=
  callω_runs fns (af := af66) rfl rfl rfl rfl hl h
theorem run21 {vs : List AV} {h0 : H} (hl : vs.length ≤ 7) {r : AV × H} (h : GoC fns (fun e => xends [.tmp 2] e = some r) [] k21_1 ⟨fun j => (vs[j]?).getD .undef, fun _ => none, h0⟩) : callω fns 21 vs h0 = some r :=
  callω_run fns (af := af21) rfl rfl rfl rfl hl h
theorem runs21 {vs : List AV} {h0 : H} (hl : vs.length ≤ 7) {p : AV × H → Prop} (h : GoC fns (fun e => Run (xends [.tmp 2] e) p) [] k21_1 ⟨fun j => (vs[j]?).getD .undef, fun _ => none, h0⟩) : CW fns 21 vs h0 p :=
  callω_runs fns (af := af21) rfl rfl rfl rfl hl h
theorem run4 {vs : List AV} {h0 : H} (hl : vs.length ≤ 113) {r : AV × H} (h : GoC fns (fun e => xends [.tmp 4] e = some r) [] k4_25 ⟨fun j => (vs[j]?).getD .undef, fun _ => none, h0⟩) : callω fns 4 vs h0 = some r :=
  callω_run fns (af := af4) rfl rfl rfl rfl hl h
theorem runs4 {vs : List AV} {h0 : H} (hl : vs.length ≤ 113) {p : AV × H → Prop} (h : GoC fns (fun e => Run (xends [.tmp 4] e) p) [] k4_25 ⟨fun j => (vs[j]?).getD .undef, fun _ => none, h0⟩) : CW fns 4 vs h0 p :=
  callω_runs fns (af := af4) rfl rfl rfl rfl hl h
theorem run171 {vs : List AV} {h0 : H} (hl : vs.length ≤ 25) {r : AV × H} (h : GoC fns (fun e => xends [.cell 2 true 4] e = some r) [] k171_2 ⟨fun j => (vs[j]?).getD .undef, fun _ => none, h0⟩) : callω fns 171 vs h0 = some r :=
  callω_run fns (af := af171) rfl rfl rfl rfl hl h
theorem runs171 {vs : List AV} {h0 : H} (hl : vs.length ≤ 25) {p : AV × H → Prop} (h : GoC fns (fun e => Run (xends [.cell 2 true 4] e) p) [] k171_2 ⟨fun j => (vs[j]?).getD .undef, fun _ => none, h0⟩) : CW fns 171 vs h0 p :=
  callω_runs fns (af := af171) rfl rfl rfl rfl hl h
theorem run78 {vs : List AV} {h0 : H} (hl : vs.length ≤ 52) {r : AV × H} (h : GoC fns (fun e => xends [.tmp 2, .tmp 3, .tmp 4] e = some r) [] k78_23 ⟨fun j => (vs[j]?).getD .undef, fun _ => none, h0⟩) : callω fns 78 vs h0 = some r :=
  callω_run fns (af := af78) rfl rfl rfl rfl hl h
theorem runs78 {vs : List AV} {h0 : H} (hl : vs.length ≤ 52) {p : AV × H → Prop} (h : GoC fns (fun e => Run (xends [.tmp 2, .tmp 3, .tmp 4] e) p) [] k78_23 ⟨fun j => (vs[j]?).getD .undef, fun _ => none, h0⟩) : CW fns 78 vs h0 p :=
  callω_runs fns (af := af78) rfl rfl rfl rfl hl h
theorem run79 {vs : List AV} {h0 : H} (hl : vs.length ≤ 16) {r : AV × H} (h : GoC fns (fun e => xends [.tmp 2] e = some r) [] k79_2 ⟨fun j => (vs[j]?).getD .undef, fun _ => none, h0⟩) : callω fns 79 vs h0 = some r :=
  callω_run fns (af := af79) rfl rfl rfl rfl hl h
theorem runs79 {vs : List AV} {h0 : H} (hl : vs.length ≤ 16) {p : AV × H → Prop} (h : GoC fns (fun e => Run (xends [.tmp 2] e) p) [] k79_2 ⟨fun j => (vs[j]?).getD .undef, fun _ => none, h0⟩) : CW fns 79 vs h0 p :=
  callω_runs fns (af := af79) rfl rfl rfl rfl hl h
theorem run28 {vs : List AV} {h0 : H} (hl : vs.length ≤ 31) {r : AV × H} (h : GoC fns (fun e => xends [.tmp 2, .tmp 3] e = some r) [] k28_16 ⟨fun j => (vs[j]?).getD .undef, fun _ => none, h0⟩) : callω fns 28 vs h0 = some r :=
  callω_run fns (af := af28) rfl rfl rfl rfl hl h
theorem runs28 {vs : List AV} {h0 : H} (hl : vs.length ≤ 31) {p : AV × H → Prop} (h : GoC fns (fun e => Run (xends [.tmp 2, .tmp 3] e) p) [] k28_16 ⟨fun j => (vs[j]?).getD .undef, fun _ => none, h0⟩) : CW fns 28 vs h0 p :=
  callω_runs fns (af := af28) rfl rfl rfl rfl hl h
theorem run80 {vs : List AV} {h0 : H} (hl : vs.length ≤ 55) {r : AV × H} (h : GoC fns (fun e => xends [.tmp 2, .tmp 3] e = some r) [] k80_29 ⟨fun j => (vs[j]?).getD .undef, fun _ => none, h0⟩) : callω fns 80 vs h0 = some r :=
  callω_run fns (af := af80) rfl rfl rfl rfl hl h
theorem runs80 {vs : List AV} {h0 : H} (hl : vs.length ≤ 55) {p : AV × H → Prop} (h : GoC fns (fun e => Run (xends [.tmp 2, .tmp 3] e) p) [] k80_29 ⟨fun j => (vs[j]?).getD .undef, fun _ => none, h0⟩) : CW fns 80 vs h0 p :=
  callω_runs fns (af := af80) rfl rfl rfl rfl hl h
theorem run29 {vs : List AV} {h0 : H} (hl : vs.length ≤ 29) {r : AV × H} (h : GoC fns (fun e => xends [.tmp 2, .tmp 3] e = some r) [] k29_16 ⟨fun j => (vs[j]?).getD .undef, fun _ => none, h0⟩) : callω fns 29 vs h0 = some r :=
  callω_run fns (af := af29) rfl rfl rfl rfl hl h
theorem runs29 {vs : List AV} {h0 : H} (hl : vs.length ≤ 29) {p : AV × H → Prop} (h : GoC fns (fun e => Run (xends [.tmp 2, .tmp 3] e) p) [] k29_16 ⟨fun j => (vs[j]?).getD .undef, fun _ => none, h0⟩) : CW fns 29 vs h0 p :=
  callω_runs fns (af := af29) rfl rfl rfl rfl hl h
theorem run168 {vs : List AV} {h0 : H} (hl : vs.length ≤ 57) {r : AV × H} (h : GoC fns (fun e => xends [.tmp 2, .tmp 3] e = some r) [] k168_29 ⟨fun j => (vs[j]?).getD .undef, fun _ => none, h0⟩) : callω fns 168 vs h0 = some r :=
  callω_run fns (af := af168) rfl rfl rfl rfl hl h
theorem runs168 {vs : List AV} {h0 : H} (hl : vs.length ≤ 57) {p : AV × H → Prop} (h : GoC fns (fun e => Run (xends [.tmp 2, .tmp 3] e) p) [] k168_29 ⟨fun j => (vs[j]?).getD .undef, fun _ => none, h0⟩) : CW fns 168 vs h0 p :=
  callω_runs fns (af := af168) rfl rfl rfl rfl hl h
theorem run81 {vs : List AV} {h0 : H} (hl : vs.length ≤ 8) {r : AV × H} (h : GoC fns (fun e => xends [.tmp 2, .tmp 3] e = some r) [] k81_1 ⟨fun j => (vs[j]?).getD .undef, fun _ => none, h0⟩) : callω fns 81 vs h0 = some r :=
  callω_run fns (af := af81) rfl rfl rfl rfl hl h
theorem runs81 {vs : List AV} {h0 : H} (hl : vs.length ≤ 8) {p : AV × H → Prop} (h : GoC fns (fun e => Run (xends [.tmp 2, .tmp 3] e) p) [] k81_1 ⟨fun j => (vs[j]?).getD .undef, fun _ => none, h0⟩) : CW fns 81 vs h0 p :=
  callω_runs fns (af := af81) rfl rfl rfl rfl hl h
theorem run74 {vs : List AV} {h0 : H} (hl : vs.length ≤ 19) {r : AV × H} (h : GoC fns (fun e => xends [.tmp 2] e = some r) [] k74_15 ⟨fun j => (vs[j]?).getD .undef, fun _ => none, h0⟩) : callω fns 74 vs h0 = some r :=
  callω_run fns (af := af74) rfl rfl rfl rfl hl h
theorem runs74 {vs : List AV} {h0 : H} (hl : vs.length ≤ 19) {p : AV × H → Prop} (h : GoC fns (fun e => Run (xends [.tmp 2] e) p) [] k74_15 ⟨fun j => (vs[j]?).getD .undef, fun _ => none, h0⟩) : CW fns 74 vs h0 p :=
  callω_runs fns (af := af74) rfl rfl rfl rfl hl h
theorem run30 {vs : List AV} {h0 : H} (hl : vs.length ≤ 15) {r : AV × H} (h : GoC fns (fun e => xends [.tmp 2, .tmp 3] e = some r) [] k30_2 ⟨fun j => (vs[j]?).getD .undef, fun _ => none, h0⟩) : callω fns 30 vs h0 = some r :=
  callω_run fns (af := af30) rfl rfl rfl rfl hl h
theorem runs30 {vs : List AV} {h0 : H} (hl : vs.length ≤ 15) {p : AV × H → Prop} (h : GoC fns (fun e => Run (xends [.tmp 2, .tmp 3] e) p) [] k30_2 ⟨fun j => (vs[j]?).getD .undef, fun _ => none, h0⟩) : CW fns 30 vs h0 p :=
  callω_runs fns (af := af30) rfl rfl rfl rfl hl h
theorem run73 {vs : List AV} {h0 : H} (hl : vs.length ≤ 8) {r : AV × H} (h : GoC fns (fun e => xends [.tmp 2, .tmp 3] e = some r) [] k73_1 ⟨fun j => (vs[j]?).getD .undef, fun _ => none, h0⟩) : callω fns 73 vs h0 = some r :=
  callω_run fns (af := af73) rfl rfl rfl rfl hl h
theorem runs73 {vs : List AV} {h0 : H} (hl : vs.length ≤ 8) {p : AV × H → Prop} (h : GoC fns (fun e => Run (xends [.tmp 2, .tmp 3] e) p) [] k73_1 ⟨fun j => (vs[j]?).getD .undef, fun _ => none, h0⟩) : CW fns 73 vs h0 p :=
  callω_runs fns (af := af73) rfl rfl rfl rfl hl h
theorem run25 {vs : List AV} {h0 : H} (hl : vs.length ≤ 15) {r : AV × H} (h : GoC fns (fun e => xends [.tmp 2, .tmp 3] e = some r) [] k25_2 ⟨fun j => (vs[j]?).getD .undef, fun _ => none, h0⟩) : callω fns 25 vs h0 = some r :=
  callω_run fns (af := af25) rfl rfl rfl rfl hl h
theorem runs25 {vs : List AV} {h0 : H} (hl : vs.length ≤ 15) {p : AV × H → Prop} (h : GoC fns (fun e => Run (xends [.tmp 2, .tmp 3] e) p) [] k25_2 ⟨fun j => (vs[j]?).getD .undef, fun _ => none, h0⟩) : CW fns 25 vs h0 p :=
  callω_runs fns (af := af25) rfl rfl rfl rfl hl h
theorem run6 {vs : List AV} {h0 : H} (hl : vs.length ≤ 124) {r : AV × H} (h : GoC fns (fun e => xends [.tmp 2] e = some r) [] k6_32 ⟨fun j => (vs[j]?).getD .undef, fun _ => none, h0⟩) : callω fns 6 vs h0 = some r :=
  callω_run fns (af := af6) rfl rfl rfl rfl hl h
theorem runs6 {vs : List AV} {h0 : H} (hl : vs.length ≤ 124) {p : AV × H → Prop} (h : GoC fns (fun e => Run (xends [.tmp 2] e) p) [] k6_32 ⟨fun j => (vs[j]?).getD .undef, fun _ => none, h0⟩) : CW fns 6 vs h0 p :=
  callω_runs fns (af := af6) rfl rfl rfl rfl hl h

theorem runv15 {vs : List AV} {h0 : H} (hl : vs.length ≤ 6) {v : AV} (h : GoC fns (fun e => Run (xends [.tmp 2] e) fun q => noHeap h0.n q = some v) [] k15_1 ⟨fun j => (vs[j]?).getD .undef, fun _ => none, h0⟩) : callv fns 15 vs h0 = some v :=
  callω_runv fns (af := af15) rfl rfl rfl rfl hl h
theorem runv11 {vs : List AV} {h0 : H} (hl : vs.length ≤ 31) {v : AV} (h : GoC fns (fun e => Run (xends [.tmp 2, .tmp 3] e) fun q => noHeap h0.n q = some v) [] k11_5 ⟨fun j => (vs[j]?).getD .undef, fun _ => none, h0⟩) : callv fns 11 vs h0 = some v :=
  callω_runv fns (af := af11) rfl rfl rfl rfl hl h
theorem runv63 {vs : List AV} {h0 : H} (hl : vs.length ≤ 23) {v : AV} (h : GoC fns (fun e => Run (xends [.tmp 2, .tmp 3, .tmp 4] e) fun q => noHeap h0.n q = some v) [] k63_15 ⟨fun j => (vs[j]?).getD .undef, fun _ => none, h0⟩) : callv fns 63 vs h0 = some v :=
  callω_runv fns (af := af63) rfl rfl rfl rfl hl h
theorem runv60 {vs : List AV} {h0 : H} (hl : vs.length ≤ 140) {v : AV} (h : GoC fns (fun e => Run (xends [.tmp 4, .tmp 5] e) fun q => noHeap h0.n q = some v) [] k60_64 ⟨fun j => (vs[j]?).getD .undef, fun _ => none, h0⟩) : callv fns 60 vs h0 = some v :=
  callω_runv fns (af := af60) rfl rfl rfl rfl hl h
theorem runv16 {vs : List AV} {h0 : H} (hl : vs.length ≤ 69) {v : AV} (h : GoC fns (fun e => Run (xends [.tmp 4, .tmp 5] e) fun q => noHeap h0.n q = some v) [] k16_24 ⟨fun j => (vs[j]?).getD .undef, fun _ => none, h0⟩) : callv fns 16 vs h0 = some v :=
  callω_runv fns (af := af16) rfl rfl rfl rfl hl h
theorem runv13 {vs : List AV} {h0 : H} (hl : vs.length ≤ 6) {v : AV} (h : GoC fns (fun e => Run (xends [.tmp 2] e) fun q => noHeap h0.n q = some v) [] k13_1 ⟨fun j => (vs[j]?).getD .undef, fun _ => none, h0⟩) : callv fns 13 vs h0 = some v :=
  callω_runv fns (af := af13) rfl rfl rfl rfl hl h
theorem runv140 {vs : List AV} {h0 : H} (hl : vs.length ≤ 38) {v : AV} (h : GoC fns (fun e => Run (xends [.tmp 2, .tmp 3, .tmp 4] e) fun q => noHeap h0.n q = some v) [] k140_7 ⟨fun j => (vs[j]?).getD .undef, fun _ => none, h0⟩) : callv fns 140 vs h0 = some v :=
  callω_runv fns (af := af140) rfl rfl rfl rfl hl h
theorem runv54 {vs : List AV} {h0 : H} (hl : vs.length ≤ 20) {v : AV} (h : GoC fns (fun e => Run (xends [.tmp 2, .tmp 3, .tmp 4] e) fun q => noHeap h0.n q = some v) [] k54_6 ⟨fun j => (vs[j]?).getD .undef, fun _ => none, h0⟩) : callv fns 54 vs h0 = some v :=
  callω_runv fns (af := af54) rfl rfl rfl rfl hl h
theorem runv220 {vs : List AV} {h0 : H} (hl : vs.length ≤ 8) {v : AV} (h : GoC fns (fun e => Run (xends [.tmp 4] e) fun q => noHeap h0.n q = some v) [] k220_1 ⟨fun j => (vs[j]?).getD .undef, fun _ => none, h0⟩) : callv fns 220 vs h0 = some v :=
  callω_runv fns (af := af220) rfl rfl rfl rfl hl h
theorem runv164 {vs : List AV} {h0 : H} (hl : vs.length ≤ 94) {v : AV} (h : GoC fns (fun e => Run (xends [.tmp 4, .tmp 5] e) fun q => noHeap h0.n q = some v) [] k164_81 ⟨fun j => (vs[j]?).getD .undef, fun _ => none, h0⟩) : callv fns 164 vs h0 = some v :=
  callω_runv fns (af := af164) rfl rfl rfl rfl hl h
theorem runv163 {vs : List AV} {h0 : H} (hl : vs.length ≤ 31) {v : AV} (h : GoC fns (fun e => Run (xends [.tmp 4, .tmp 5, .tmp 6] e) fun q => noHeap h0.n q = some v) [] k163_6 ⟨fun j => (vs[j]?).getD .undef, fun _ => none, h0⟩) : callv fns 163 vs h0 = some v :=
  callω_runv fns (af := af163) rfl rfl rfl rfl hl h
theorem runv61 {vs : List AV} {h0 : H} (hl : vs.length ≤ 25) {v : AV} (h : GoC fns (fun e => Run (xends [.cell 4 true 2, .tmp 5, .tmp 6] e) fun q => noHeap h0.n q = some v) [] k61_6 ⟨fun j => (vs[j]?).getD .undef, fun _ => none, h0⟩) : callv fns 61 vs h0 = some v :=
  callω_runv fns (af := af61) rfl rfl rfl rfl hl h
theorem runv55 {vs : List AV} {h0 : H} (hl : vs.length ≤ 5) {v : AV} (h : GoC fns (fun e => Run (xends [.tmp 2] e) fun q => noHeap h0.n q = some v) [] k55_1 ⟨fun j => (vs[j]?).getD .undef, fun _ => none, h0⟩) : callv fns 55 vs h0 = some v :=
  callω_runv fns (af := af55) rfl rfl rfl rfl hl h
theorem runv62 {vs : List AV} {h0 : H} (hl : vs.length ≤ 10) {v : AV} (h : GoC fns (fun e => Run (xends [.cell 2 true 2] e) fun q => noHeap h0.n q = some v) [] k62_1 ⟨fun j => (vs[j]?).getD .undef, fun _ => none, h0⟩) : callv fns 62 vs h0 = some v :=
  callω_runv fns (af := af62) rfl rfl rfl rfl hl h
theorem runv17 {vs : List AV} {h0 : H} (hl : vs.length ≤ 21) {v : AV} (h : GoC fns (fun e => Run (xends [.cell 4 true 2, .tmp 5, .tmp 6] e) fun q => noHeap h0.n q = some v) [] k17_2 ⟨fun j => (vs[j]?).getD .undef, fun _ => none, h0⟩) : callv fns 17 vs h0 = some v :=
  callω_runv fns (af := af17) rfl rfl rfl rfl hl h
theorem runv18 {vs : List AV} {h0 : H} (hl : vs.length ≤ 38) {v : AV} (h : GoC fns (fun e => Run (xends [.tmp 2, .tmp 3] e) fun q => noHeap h0.n q = some v) [] k18_11 ⟨fun j => (vs[j]?).getD .undef, fun _ => none, h0⟩) : callv fns 18 vs h0 = some v :=
  callω_runv fns (af := af18) rfl rfl rfl rfl hl h
theorem runv64 {vs : List AV} {h0 : H} (hl : vs.length ≤ 63) {v : AV} (h : GoC fns (fun e => Run (xends [.tmp 2, .tmp 3, .tmp 4] e) fun q => noHeap h0.n q = some v) [] k64_31 ⟨fun j => (vs[j]?).getD .undef, fun _ => none, h0⟩) : callv fns 64 vs h0 = some v :=
  callω_runv fns (af := af64) rfl rfl rfl rfl hl h
theorem runv19 {vs : List AV} {h0 : H} (hl : vs.length ≤ 17) {v : AV} (h : GoC fns (fun e => Run (xends [.tmp 2, .tmp 3, .tmp 4] e) fun q => noHeap h0.n q = some v) [] k19_2 ⟨fun j => (vs[j]?).getD .undef, fun _ => none, h0⟩) : callv fns 19 vs h0 = some v :=
  callω_runv fns (af := af19) rfl rfl rfl rfl hl h
theorem runv262 {vs : List AV} {h0 : H} (hl : vs.length ≤ 12) {v : AV} (h : GoC fns (fun e => Run (xends [.tmp 2, .tmp 3] e) fun q => noHeap h0.n q = some v) [] k262_2 ⟨fun j => (vs[j]?).getD .undef, fun _ => none, h0⟩) : callv fns 262 vs h0 = some v :=
  callω_runv fns (af := af262) rfl rfl rfl rfl hl h
theorem runv229 {vs : List AV} {h0 : H} (hl : vs.length ≤ 8) {v : AV} (h : GoC fns (fun e => Run (xends [.tmp 2, .tmp 3] e) fun q => noHeap h0.n q = some v) [] k229_1 ⟨fun j => (vs[j]?).getD .undef, fun _ => none, h0⟩) : callv fns 229 vs h0 = some v :=
  callω_runv fns (af := af229) rfl rfl rfl rfl hl h
theorem runv180 {vs : List AV} {h0 : H} (hl : vs.length ≤ 26) {v : AV} (h : GoC fns (fun e => Run (xends [.tmp 2] e) fun q => noHeap h0.n q = some v) [] k180_4 ⟨fun j => (vs[j]?).getD .undef, fun _ => none, h0⟩) : callv fns 180 vs h0 = some v :=
  callω_runv fns (af := af180) rfl rfl rfl rfl hl h
theorem runv141 {vs : List AV} {h0 : H} (hl : vs.length ≤ 4) {v : AV} (h : GoC fns (fun e => Run (xends [.tmp 0] e) fun q => noHeap h0.n q = some v) [] k141_1 ⟨fun j => (vs[j]?).getD .undef, fun _ => none, h0⟩) : callv fns 141 vs h0 = some v :=
  callω_runv fns (af := af141) rfl rfl rfl rfl hl h
theorem runv316 {vs : List AV} {h0 : H} (hl : vs.length ≤ 35) {v : AV} (h : GoC fns (fun e => Run (xends [.tmp 4] e) fun q => noHeap h0.n q = some v) [] k316_18 ⟨fun j => (vs[j]?).getD .undef, fun _ => none, h0⟩) : callv fns 316 vs h0 = some v :=
  callω_runv fns (af := af316) rfl rfl rfl rfl hl h
theorem runv307 {vs : List AV} {h0 : H} (hl : vs.length ≤ 9) {v : AV} (h : GoC fns (fun e => Run (xends [.tmp 4] e) fun q => noHeap h0.n q = some v) [] k307_1 ⟨fun j => (vs[j]?).getD .undef, fun _ => none, h0⟩) : callv fns 307 vs h0 = some v :=
  callω_runv fns (af := af307) rfl rfl rfl rfl hl h
theorem runv265 {vs : List AV} {h0 : H} (hl : vs.length ≤ 6) {v : AV} (h : GoC fns (fun e => Run (xends [.tmp 2] e) fun q => noHeap h0.n q = some v) [] k265_1 ⟨fun j => (vs[j]?).getD .undef, fun _ => none, h0⟩) : callv fns 265 vs h0 = some v :=
  callω_runv fns (af := af265) rfl rfl rfl rfl hl h
theorem runv266 {vs : List AV} {h0 : H} (hl : vs.length ≤ 9) {v : AV} (h : GoC fns (fun e => Run (xends [.tmp 4] e) fun q => noHeap h0.n q = some v) [] k266_1 ⟨fun j => (vs[j]?).getD .undef, fun _ => none, h0⟩) : callv fns 266 vs h0 = some v :=
  callω_runv fns (af := af266) rfl rfl rfl rfl hl h
theorem runv232 {vs : List AV} {h0 : H} (hl : vs.length ≤ 20) {v : AV} (h : GoC fns (fun e => Run (xends [.tmp 6] e) fun q => noHeap h0.n q = some v) [] k232_7 ⟨fun j => (vs[j]?).getD .undef, fun _ => none, h0⟩) : callv fns 232 vs h0 = some v :=
  callω_runv fns (af := af232) rfl rfl rfl rfl hl h
theorem runv314 {vs : List AV} {h0 : H} (hl : vs.length ≤ 19) {v : AV} (h : GoC fns (fun e => Run (xends [.tmp 4] e) fun q => noHeap h0.n q = some v) [] k314_1 ⟨fun j => (vs[j]?).getD .undef, fun _ => none, h0⟩) : callv fns 314 vs h0 = some v :=
  callω_runv fns (af := af314) rfl rfl rfl rfl hl h
theorem runv300 {vs : List AV} {h0 : H} (hl : vs.length ≤ 8) {v : AV} (h : GoC fns (fun e => Run (xends [.tmp 4] e) fun q => noHeap h0.n q = some v) [] k300_1 ⟨fun j => (vs[j]?).getD .undef, fun _ => none, h0⟩) : callv fns 300 vs h0 = some v :=
  callω_runv fns (af := af300) rfl rfl rfl rfl hl h
theorem runv248 {vs : List AV} {h0 : H} (hl : vs.length ≤ 12) {v : AV} (h : GoC fns (fun e => Run (xends [.tmp 6] e) fun q => noHeap h0.n q = some v) [] k248_1 ⟨fun j => (vs[j]?).getD .undef, fun _ => none, h0⟩) : callv fns 248 vs h0 = some v :=
  callω_runv fns (af := af248) rfl rfl rfl rfl hl h
theorem runv201 {vs : List AV} {h0 : H} (hl : vs.length ≤ 18) {v : AV} (h : GoC fns (fun e => Run (xends [.tmp 6] e) fun q => noHeap h0.n q = some v) [] k201_2 ⟨fun j => (vs[j]?).getD .undef, fun _ => none, h0⟩) : callv fns 201 vs h0 = some v :=
  callω_runv fns (af := af201) rfl rfl rfl rfl hl h
theorem runv142 {vs : List AV} {h0 : H} (hl : vs.length ≤ 206) {v : AV} (h : GoC fns (fun e => Run (xends [] e) fun q => noHeap h0.n q = some v) [] k142_79 ⟨fun j => (vs[j]?).getD .undef, fun _ => none, h0⟩) : callv fns 142 vs h0 = some v :=
  callω_runv fns (af := af142) rfl rfl rfl rfl hl h
theorem runv173 {vs : List AV} {h0 : H} (hl : vs.length ≤ 7) {v : AV} (h : GoC fns (fun e => Run (xends [.tmp 2] e) fun q => noHeap h0.n q = some v) [] k173_1 ⟨fun j => (vs[j]?).getD .undef, fun _ => none, h0⟩) : callv fns 173 vs h0 = some v :=
  callω_runv fns (af := af173) rfl rfl rfl rfl hl h
theorem runv304 {vs : List AV} {h0 : H} (hl : vs.length ≤ 28) {v : AV} (h : GoC fns (fun e => Run (xends [] e) fun q => noHeap h0.n q = some v) [] k304_5 ⟨fun j => (vs[j]?).getD .undef, fun _ => none, h0⟩) : callv fns 304 vs h0 = some v :=
  callω_runv fns (af := af304) rfl rfl rfl rfl hl h
theorem runv254 {vs : List AV} {h0 : H} (hl : vs.length ≤ 15) {v : AV} (h : GoC fns (fun e => Run (xends [.tmp 6] e) fun q => noHeap h0.n q = some v) [] k254_2 ⟨fun j => (vs[j]?).getD .undef, fun _ => none, h0⟩) : callv fns 254 vs h0 = some v :=
  callω_runv fns (af := af254) rfl rfl rfl rfl hl h
theorem runv207 {vs : List AV} {h0 : H} (hl : vs.length ≤ 26) {v : AV} (h : GoC fns (fun e => Run (xends [.tmp 4, .tmp 5] e) fun q => noHeap h0.n q = some v) [] k207_7 ⟨fun j => (vs[j]?).getD .undef, fun _ => none, h0⟩) : callv fns 207 vs h0 = some v :=
  callω_runv fns (af := af207) rfl rfl rfl rfl hl h
theorem runv143 {vs : List AV} {h0 : H} (hl : vs.length ≤ 41) {v : AV} (h : GoC fns (fun e => Run (xends [.tmp 2] e) fun q => noHeap h0.n q = some v) [] k143_4 ⟨fun j => (vs[j]?).getD .undef, fun _ => none, h0⟩) : callv fns 143 vs h0 = some v :=
  callω_runv fns (af := af143) rfl rfl rfl rfl hl h
theorem runv56 {vs : List AV} {h0 : H} (hl : vs.length ≤ 10) {v : AV} (h : GoC fns (fun e => Run (xends [.tmp 2] e) fun q => noHeap h0.n q = some v) [] k56_3 ⟨fun j => (vs[j]?).getD .undef, fun _ => none, h0⟩) : callv fns 56 vs h0 = some v :=
  callω_runv fns (af := af56) rfl rfl rfl rfl hl h
theorem runv210 {vs : List AV} {h0 : H} (hl : vs.length ≤ 32) {v : AV} (h : GoC fns (fun e => Run (xends [.tmp 2, .tmp 3, .tmp 4] e) fun q => noHeap h0.n q = some v) [] k210_14 ⟨fun j => (vs[j]?).getD .undef, fun _ => none, h0⟩) : callv fns 210 vs h0 = some v :=
  callω_runv fns (af := af210) rfl rfl rfl rfl hl h
theorem runv146 {vs : List AV} {h0 : H} (hl : vs.length ≤ 10) {v : AV} (h : GoC fns (fun e => Run (xends [.tmp 2, .tmp 3, .tmp 4] e) fun q => noHeap h0.n q = some v) [] k146_1 ⟨fun j => (vs[j]?).getD .undef, fun _ => none, h0⟩) : callv fns 146 vs h0 = some v :=
  callω_runv fns (af := af146) rfl rfl rfl rfl hl h
theorem runv147 {vs : List AV} {h0 : H} (hl : vs.length ≤ 10) {v : AV} (h : GoC fns (fun e => Run (xends [.tmp 2, .tmp 3, .tmp 4] e) fun q => noHeap h0.n q = some v) [] k147_1 ⟨fun j => (vs[j]?).getD .undef, fun _ => none, h0⟩) : callv fns 147 vs h0 = some v :=
  callω_runv fns (af := af147) rfl rfl rfl rfl hl h
theorem runv87 {vs : List AV} {h0 : H} (hl : vs.length ≤ 4) {v : AV} (h : GoC fns (fun e => Run (xends [.tmp 2] e) fun q => noHeap h0.n q = some v) [] k87_5 ⟨fun j => (vs[j]?).getD .undef, fun _ => none, h0⟩) : callv fns 87 vs h0 = some v :=
  callω_runv fns (af := af87) rfl rfl rfl rfl hl h
theorem runv157 {vs : List AV} {h0 : H} (hl : vs.length ≤ 10) {v : AV} (h : GoC fns (fun e => Run (xends [.tmp 2, .tmp 3, .tmp 4] e) fun q => noHeap h0.n q = some v) [] k157_1 ⟨fun j => (vs[j]?).getD .undef, fun _ => none, h0⟩) : callv fns 157 vs h0 = some v :=
  callω_runv fns (af := af157) rfl rfl rfl rfl hl h
theorem runv57 {vs : List AV} {h0 : H} (hl : vs.length ≤ 229) {v : AV} (h : GoC fns (fun e => Run (xends [.cell 4 true 8, .tmp 5, .tmp 6] e) fun q => noHeap h0.n q = some v) [] k57_80 ⟨fun j => (vs[j]?).getD .undef, fun _ => none, h0⟩) : callv fns 57 vs h0 = some v :=
  callω_runv fns (af := af57) rfl rfl rfl rfl hl h
theorem runv166 {vs : List AV} {h0 : H} (hl : vs.length ≤ 8) {v : AV} (h : GoC fns (fun e => Run (xends [.cell 4 true 2] e) fun q => noHeap h0.n q = some v) [] k166_1 ⟨fun j => (vs[j]?).getD .undef, fun _ => none, h0⟩) : callv fns 166 vs h0 = some v :=
  callω_runv fns (af := af166) rfl rfl rfl rfl hl h
theorem runv258 {vs : List AV} {h0 : H} (hl : vs.length ≤ 19) {v : AV} (h : GoC fns (fun e => Run (xends [.tmp 2, .tmp 3] e) fun q => noHeap h0.n q = some v) [] k258_10 ⟨fun j => (vs[j]?).getD .undef, fun _ => none, h0⟩) : callv fns 258 vs h0 = some v :=
  callω_runv fns (af := af258) rfl rfl rfl rfl hl h
theorem runv214 {vs : List AV} {h0 : H} (hl : vs.length ≤ 11) {v : AV} (h : GoC fns (fun e => Run (xends [.tmp 2] e) fun q => noHeap h0.n q = some v) [] k214_2 ⟨fun j => (vs[j]?).getD .undef, fun _ => none, h0⟩) : callv fns 214 vs h0 = some v :=
  callω_runv fns (af := af214) rfl rfl rfl rfl hl h
theorem runv218 {vs : List AV} {h0 : H} (hl : vs.length ≤ 40) {v : AV} (h : GoC fns (fun e => Run (xends [.cell 2 true 2, .tmp 3] e) fun q => noHeap h0.n q = some v) [] k218_15 ⟨fun j => (vs[j]?).getD .undef, fun _ => none, h0⟩) : callv fns 218 vs h0 = some v :=
  callω_runv fns (af := af218) rfl rfl rfl rfl hl h
theorem runv170 {vs : List AV} {h0 : H} (hl : vs.length ≤ 11) {v : AV} (h : GoC fns (fun e => Run (xends [.cell 2 true 2] e) fun q => noHeap h0.n q = some v) [] k170_2 ⟨fun j => (vs[j]?).getD .undef, fun _ => none, h0⟩) : callv fns 170 vs h0 = some v :=
  callω_runv fns (af := af170) rfl rfl rfl rfl hl h
theorem runv215 {vs : List AV} {h0 : H} (hl : vs.length ≤ 29) {v : AV} (h : GoC fns (fun e => Run (xends [.tmp 2] e) fun q => noHeap h0.n q = some v) [] k215_10 ⟨fun j => (vs[j]?).getD .undef, fun _ => none, h0⟩) : callv fns 215 vs h0 = some v :=
  callω_runv fns (af := af215) rfl rfl rfl rfl hl h
theorem runv216 {vs : List AV} {h0 : H} (hl : vs.length ≤ 29) {v : AV} (h : GoC fns (fun e => Run (xends [.tmp 2] e) fun q => noHeap h0.n q = some v) [] k216_10 ⟨fun j => (vs[j]?).getD .undef, fun _ => none, h0⟩) : callv fns 216 vs h0 = some v :=
  callω_runv fns (af := af216) rfl rfl rfl rfl hl h
theorem runv259 {vs : List AV} {h0 : H} (hl : vs.length ≤ 14) {v : AV} (h : GoC fns (fun e => Run (xends [.tmp 2, .tmp 3] e) fun q => noHeap h0.n q = some v) [] k259_2 ⟨fun j => (vs[j]?).getD .undef, fun _ => none, h0⟩) : callv fns 259 vs h0 = some v :=
  callω_runv fns (af := af259) rfl rfl rfl rfl hl h
theorem runv217 {vs : List AV} {h0 : H} (hl : vs.length ≤ 11) {v : AV} (h : GoC fns (fun e => Run (xends [.tmp 2] e) fun q => noHeap h0.n q = some v) [] k217_2 ⟨fun j => (vs[j]?).getD .undef, fun _ => none, h0⟩) : callv fns 217 vs h0 = some v :=
  callω_runv fns (af := af217) rfl rfl rfl rfl hl h
theorem runv161 {vs : List AV} {h0 : H} (hl : vs.length ≤ 113) {v : AV} (h : GoC fns (fun e => Run (xends [.cell 4 true 2, .tmp 5] e) fun q => noHeap h0.n q = some v) [] k161_53 ⟨fun j => (vs[j]?).getD .undef, fun _ => none, h0⟩) : callv fns 161 vs h0 = some v :=
  callω_runv fns (af := af161) rfl rfl rfl rfl hl h
theorem runv65 {vs : List AV} {h0 : H} (hl : vs.length ≤ 42) {v : AV} (h : GoC fns (fun e => Run (xends [.tmp 2] e) fun q => noHeap h0.n q = some v) [] k65_47 ⟨fun j => (vs[j]?).getD .undef, fun _ => none, h0⟩) : callv fns 65 vs h0 = some v :=
  callω_runv fns (af := af65) rfl rfl rfl rfl hl h
theorem runv58 {vs : List AV} {h0 : H} (hl : vs.length ≤ 18) {v : AV} (h : GoC fns (fun e => Run (xends [.cell 4 true 2, .tmp 5] e) fun q => noHeap h0.n q = some v) [] k58_2 ⟨fun j => (vs[j]?).getD .undef, fun _ => none, h0⟩) : callv fns 58 vs h0 = some v :=
  callω_runv fns (af := af58) rfl rfl rfl rfl hl h
theorem runv260 {vs : List AV} {h0 : H} (hl : vs.length ≤ 10) {v : AV} (h : GoC fns (fun e => Run (xends [.tmp 6] e) fun q => noHeap h0.n q = some v) [] k260_1 ⟨fun j => (vs[j]?).getD .undef, fun _ => none, h0⟩) : callv fns 260 vs h0 = some v :=
  callω_runv fns (af := af260) rfl rfl rfl rfl hl h
theorem runv219 {vs : List AV} {h0 : H} (hl : vs.length ≤ 8) {v : AV} (h : GoC fns (fun e => Run (xends [.tmp 4] e) fun q => noHeap h0.n q = some v) [] k219_1 ⟨fun j => (vs[j]?).getD .undef, fun _ => none, h0⟩) : callv fns 219 vs h0 = some v :=
  callω_runv fns (af := af219) rfl rfl rfl rfl hl h
theorem runv67 {vs : List AV} {h0 : H} (hl : vs.length ≤ 23) {v : AV} (h : GoC fns (fun e => Run (xends [.tmp 2] e) fun q => noHeap h0.n q = some v) [] k67_6 ⟨fun j => (vs[j]?).getD .undef, fun _ => none, h0⟩) : callv fns 67 vs h0 = some v :=
  callω_runv fns (af := af67) rfl rfl rfl rfl hl h
theorem runv172 {vs : List AV} {h0 : H} (hl : vs.length ≤ 23) {v : AV} (h : GoC fns (fun e => Run (xends [.tmp 2] e) fun q => noHeap h0.n q = some v) [] k172_10 ⟨fun j => (vs[j]?).getD .undef, fun _ => none, h0⟩) : callv fns 172 vs h0 = some v :=
  callω_runv fns (af := af172) rfl rfl rfl rfl hl h
theorem runv162 {vs : List AV} {h0 : H} (hl : vs.length ≤ 76) {v : AV} (h : GoC fns (fun e => Run (xends [.tmp 2] e) fun q => noHeap h0.n q = some v) [] k162_42 ⟨fun j => (vs[j]?).getD .undef, fun _ => none, h0⟩) : callv fns 162 vs h0 = some v :=
  callω_runv fns (af := af162) rfl rfl rfl rfl hl h
theorem runv59 {vs : List AV} {h0 : H} (hl : vs.length ≤ 6) {v : AV} (h : GoC fns (fun e => Run (xends [.tmp 2] e) fun q => noHeap h0.n q = some v) [] k59_1 ⟨fun j => (vs[j]?).getD .undef, fun _ => none, h0⟩) : callv fns 59 vs h0 = some v :=
  callω_runv fns (af := af59) rfl rfl rfl rfl hl h
theorem runv14 {vs : List AV} {h0 : H} (hl : vs.length ≤ 60) {v : AV} (h : GoC fns (fun e => Run (xends [.tmp 0] e) fun q => noHeap h0.n q = some v) [] k14_4 ⟨fun j => (vs[j]?).getD .undef, fun _ => none, h0⟩) : callv fns 14 vs h0 = some v :=
  callω_runv fns (af := af14) rfl rfl rfl rfl hl h
theorem runv20 {vs : List AV} {h0 : H} (hl : vs.length ≤ 19) {v : AV} (h : GoC fns (fun e => Run (xends [.tmp 6] e) fun q => noHeap h0.n q = some v) [] k20_1 ⟨fun j => (vs[j]?).getD .undef, fun _ => none, h0⟩) : callv fns 20 vs h0 = some v :=
  callω_runv fns (af := af20) rfl rfl rfl rfl hl h
theorem runv66 {vs : List AV} {h0 : H} (hl : vs.length ≤ 9) {v : AV} (h : GoC fns (fun e => Run (xends [.cell 2 true 2] e) fun q => noHeap h0.n q = some v) [] k66_1 ⟨fun j => (vs[j]?).getD .undef, fun _ => none, h0⟩) : callv fns 66 vs h0 = some v :=
  callω_runv fns (af := af66) rfl rfl rfl rfl hl h
theorem runv21 {vs : List AV} {h0 : H} (hl : vs.length ≤ 7) {v : AV} (h : GoC fns (fun e => Run (xends [.tmp 2] e) fun q => noHeap h0.n q = some v) [] k21_1 ⟨fun j => (vs[j]?).getD .undef, fun _ => none, h0⟩) : callv fns 21 vs h0 = some v :=
  callω_runv fns (af := af21) rfl rfl rfl rfl hl h
theorem runv4 {vs : List AV} {h0 : H} (hl : vs.length ≤ 113) {v : AV} (h : GoC fns (fun e => Run (xends [.tmp 4] e) fun q => noHeap h0.n q = some v) [] k4_25 ⟨fun j => (vs[j]?).getD .undef, fun _ => none, h0⟩) : callv fns 4 vs h0 = some v :=
  callω_runv fns (af := af4) rfl rfl rfl rfl hl h
theorem runv171 {vs : List AV} {h0 : H} (hl : vs.length ≤ 25) {v : AV} (h : GoC fns (fun e => Run (xends [.cell 2 true 4] e) fun q => noHeap h0.n q = some v) [] k171_2 ⟨fun j => (vs[j]?).getD .undef, fun _ => none, h0⟩) : callv fns 171 vs h0 = some v :=
  callω_runv fns (af := af171) rfl rfl rfl rfl hl h
theorem runv78 {vs : List AV} {h0 : H} (hl : vs.length ≤ 52) {v : AV} (h : GoC fns (fun e => Run (xends [.tmp 2, .tmp 3, .tmp 4] e) fun q => noHeap h0.n q = some v) [] k78_23 ⟨fun j => (vs[j]?).getD .undef, fun _ => none, h0⟩) : callv fns 78 vs h0 = some v :=
  callω_runv fns (af := af78) rfl rfl rfl rfl hl h
theorem runv79 {vs : List AV} {h0 : H} (hl : vs.length ≤ 16) {v : AV} (h : GoC fns (fun e => Run (xends [.tmp 2] e) fun q => noHeap h0.n q = some v) [] k79_2 ⟨fun j => (vs[j]?).getD .undef, fun _ => none, h0⟩) : callv fns 79 vs h0 = some v :=
  callω_runv fns (af := af79) rfl rfl rfl rfl hl h
theorem runv28 {vs : List AV} {h0 : H} (hl : vs.length ≤ 31) {v : AV} (h : GoC fns (fun e => Run (xends [.tmp 2, .tmp 3] e) fun q => noHeap h0.n q = some v) [] k28_16 ⟨fun j => (vs[j]?).getD .undef, fun _ => none, h0⟩) : callv fns 28 vs h0 = some v :=
  callω_runv fns (af := af28) rfl rfl rfl rfl hl h
theorem runv80 {vs : List AV} {h0 : H} (hl : vs.length ≤ 55) {v : AV} (h : GoC fns (fun e => Run (xends [.tmp 2, .tmp 3] e) fun q => noHeap h0.n q = some v) [] k80_29 ⟨fun j => (vs[j]?).getD .undef, fun _ => none, h0⟩) : callv fns 80 vs h0 = some v :=
  callω_runv fns (af := af80) rfl rfl rfl rfl hl h
theorem runv29 {vs : List AV} {h0 : H} (hl : vs.length ≤ 29) {v : AV} (h : GoC fns (fun e => Run (xends [.tmp 2, .tmp 3] e) fun q => noHeap h0.n q = some v) [] k29_16 ⟨fun j => (vs[j]?).getD .undef, fun _ => none, h0⟩) : callv fns 29 vs h0 = some v :=
  callω_runv fns (af := af29) rfl rfl rfl rfl hl h
theorem runv168 {vs : List AV} {h0 : H} (hl : vs.length ≤ 57) {v : AV} (h : GoC fns (fun e => Run (xends [.tmp 2, .tmp 3] e) fun q => noHeap h0.n q = some v) [] k168_29 ⟨fun j => (vs[j]?).getD .undef, fun _ => none, h0⟩) : callv fns 168 vs h0 = some v :=
  callω_runv fns (af := af168) rfl rfl rfl rfl hl h
theorem runv81 {vs : List AV} {h0 : H} (hl : vs.length ≤ 8) {v : AV} (h : GoC fns (fun e => Run (xends [.tmp 2, .tmp 3] e) fun q => noHeap h0.n q = some v) [] k81_1 ⟨fun j => (vs[j]?).getD .undef, fun _ => none, h0⟩) : callv fns 81 vs h0 = some v :=
  callω_runv fns (af := af81) rfl rfl rfl rfl hl h
theorem runv74 {vs : List AV} {h0 : H} (hl : vs.length ≤ 19) {v : AV} (h : GoC fns (fun e => Run (xends [.tmp 2] e) fun q => noHeap h0.n q = some v) [] k74_15 ⟨fun j => (vs[j]?).getD .undef, fun _ => none, h0⟩) : callv fns 74 vs h0 = some v :=
  callω_runv fns (af := af74) rfl rfl rfl rfl hl h
theorem runv30 {vs : List AV} {h0 : H} (hl : vs.length ≤ 15) {v : AV} (h : GoC fns (fun e => Run (xends [.tmp 2, .tmp 3] e) fun q => noHeap h0.n q = some v) [] k30_2 ⟨fun j => (vs[j]?).getD .undef, fun _ => none, h0⟩) : callv fns 30 vs h0 = some v :=
  callω_runv fns (af := af30) rfl rfl rfl rfl hl h
theorem runv73 {vs : List AV} {h0 : H} (hl : vs.length ≤ 8) {v : AV} (h : GoC fns (fun e => Run (xends [.tmp 2, .tmp 3] e) fun q => noHeap h0.n q = some v) [] k73_1 ⟨fun j => (vs[j]?).getD .undef, fun _ => none, h0⟩) : callv fns 73 vs h0 = some v :=
  callω_runv fns (af := af73) rfl rfl rfl rfl hl h
theorem runv25 {vs : List AV} {h0 : H} (hl : vs.length ≤ 15) {v : AV} (h : GoC fns (fun e => Run (xends [.tmp 2, .tmp 3] e) fun q => noHeap h0.n q = some v) [] k25_2 ⟨fun j => (vs[j]?).getD .undef, fun _ => none, h0⟩) : callv fns 25 vs h0 = some v :=
  callω_runv fns (af := af25) rfl rfl rfl rfl hl h
theorem runv6 {vs : List AV} {h0 : H} (hl : vs.length ≤ 124) {v : AV} (h : GoC fns (fun e => Run (xends [.tmp 2] e) fun q => noHeap h0.n q = some v) [] k6_32 ⟨fun j => (vs[j]?).getD .undef, fun _ => none, h0⟩) : callv fns 6 vs h0 = some v :=
  callω_runv fns (af := af6) rfl rfl rfl rfl hl h
def OkF (f : FuncId) (af : AFunc) : Prop := ∃ fn, Tryz.prog.funcs[f]? = some fn ∧ (fn.name == "runtime.NumGoroutine") = false ∧ (∃ hs, pFunc Tryz.prog sg hs fn = some ⟨af.n, af.code, af.res, fun _ => none⟩) ∧ XOk Tryz.prog f af.x
def OkL : List (FuncId × AFunc) → Prop
  | [] => True
  | (f, af) :: r => OkF f af ∧ OkL r
theorem okL_lookup : ∀ {l : List (FuncId × AFunc)} {f : FuncId} {af : AFunc}, OkL l → l.lookup f = some af → OkF f af
  | [], _, _, _, h => by cases h
  | (g, ag) :: r, f, af, hl, h => by
    rw [List.lookup_cons] at h
    split at h
    · rename_i hb; injection h with h; subst h; have := beq_iff_eq.1 hb; subst this; exact hl.1
    · exact okL_lookup hl.2 h
theorem fnsOk : FnsOk Tryz.prog sg fns := fun f af h => okL_lookup (l := fnsL) ⟨⟨Tryz.f15, Tryz.func15, by kernel_rfl, ok15, xok_none _ _⟩, ⟨Tryz.f11, Tryz.func11, by kernel_rfl, ok11, xok_none _ _⟩, ⟨Tryz.f63, Tryz.func63, by kernel_rfl, ok63, xok_none _ _⟩, ⟨Tryz.f60, Tryz.func60, by kernel_rfl, ok60, xok_none _ _⟩, ⟨Tryz.f16, Tryz.func16, by kernel_rfl, ok16, xok_none _ _⟩, ⟨Tryz.f13, Tryz.func13, by kernel_rfl, ok13, xok_none _ _⟩, ⟨Tryz.f140, Tryz.func140, by kernel_rfl, ok140, xok_none _ _⟩, ⟨Tryz.f54, Tryz.func54, by kernel_rfl, ok54, xok_none _ _⟩, ⟨Tryz.f220, Tryz.func220, by kernel_rfl, ok220, xok_none _ _⟩, ⟨Tryz.f164, Tryz.func164, by kernel_rfl, ok164, xok_none _ _⟩, ⟨Tryz.f163, Tryz.func163, by kernel_rfl, ok163, xok_none _ _⟩, ⟨Tryz.f61, Tryz.func61, by kernel_rfl, ok61, xok_none _ _⟩, ⟨Tryz.f55, Tryz.func55, by kernel_rfl, ok55, xok_none _ _⟩, ⟨Tryz.f62, Tryz.func62, by kernel_rfl, ok62, xok_none _ _⟩, ⟨Tryz.f17, Tryz.func17, by kernel_rfl, ok17, xok_none _ _⟩, ⟨Tryz.f18, Tryz.func18, by kernel_rfl, ok18, xok_none _ _⟩, ⟨Tryz.f64, Tryz.func64, by kernel_rfl, ok64, xok_none _ _⟩, ⟨Tryz.f19, Tryz.func19, by kernel_rfl, ok19, xok_none _ _⟩, ⟨Tryz.f262, Tryz.func262, by kernel_rfl, ok262, xok_none _ _⟩, ⟨Tryz.f229, Tryz.func229, by kernel_rfl, ok229, xok_none _ _⟩, ⟨Tryz.f180, Tryz.func180, by kernel_rfl, ok180, xok_none _ _⟩, ⟨Tryz.f141, Tryz.func141, by kernel_rfl, ok141, xok_none _ _⟩, ⟨Tryz.f316, Tryz.func316, by kernel_rfl, ok316, xok_none _ _⟩, ⟨Tryz.f307, Tryz.func307, by kernel_rfl, ok307, xok_none _ _⟩, ⟨Tryz.f265, Tryz.func265, by kernel_rfl, ok265, xok_none _ _⟩, ⟨Tryz.f266, Tryz.func266, by kernel_rfl, ok266, xok_none _ _⟩, ⟨Tryz.f232, Tryz.func232, by kernel_rfl, ok232, xok_none _ _⟩, ⟨Tryz.f314, Tryz.func314, by kernel_rfl, ok314, xok_none _ _⟩, ⟨Tryz.f300, Tryz.func300, by kernel_rfl, ok300, xok_none _ _⟩, ⟨Tryz.f248, Tryz.func248, by kernel_rfl, ok248, xok_none _ _⟩, ⟨Tryz.f201, Tryz.func201, by kernel_rfl, ok201, xok_none _ _⟩, ⟨Tryz.f142, Tryz.func142, by kernel_rfl, ok142, xok_none _ _⟩, ⟨Tryz.f173, Tryz.func173, by kernel_rfl, ok173, xok_none _ _⟩, ⟨Tryz.f304, Tryz.func304, by kernel_rfl, ok304, xok_none _ _⟩, ⟨Tryz.f254, Tryz.func254, by kernel_rfl, ok254, xok_none _ _⟩, ⟨Tryz.f207, Tryz.func207, by kernel_rfl, ok207, xok_none _ _⟩, ⟨Tryz.f143, Tryz.func143, by kernel_rfl, ok143, xok_none _ _⟩, ⟨Tryz.f56, Tryz.func56, by kernel_rfl, ok56, xok_none _ _⟩, ⟨Tryz.f210, Tryz.func210, by kernel_rfl, ok210, xok_none _ _⟩, ⟨Tryz.f146, Tryz.func146, by kernel_rfl, ok146, xok_none _ _⟩, ⟨Tryz.f147, Tryz.func147, by kernel_rfl, ok147, xok_none _ _⟩, ⟨Tryz.f87, Tryz.func87, by kernel_rfl, ok87, xok_none _ _⟩, ⟨Tryz.f157, Tryz.func157, by kernel_rfl, ok157, xok_none _ _⟩, ⟨Tryz.f57, Tryz.func57, by kernel_rfl, ok57, xok_none _ _⟩, ⟨Tryz.f166, Tryz.func166, by kernel_rfl, ok166, xok_none _ _⟩, ⟨Tryz.f258, Tryz.func258, by kernel_rfl, ok258, xok_none _ _⟩, ⟨Tryz.f214, Tryz.func214, by kernel_rfl, ok214, xok_none _ _⟩, ⟨Tryz.f218, Tryz.func218, by kernel_rfl, ok218, xok_none _ _⟩, ⟨Tryz.f170, Tryz.func170, by kernel_rfl, ok170, xok_none _ _⟩, ⟨Tryz.f215, Tryz.func215, by kernel_rfl, ok215, xok_none _ _⟩, ⟨Tryz.f216, Tryz.func216, by kernel_rfl, ok216, xok_none _ _⟩, ⟨Tryz.f259, Tryz.func259, by kernel_rfl, ok259, xok_none _ _⟩, ⟨Tryz.f217, Tryz.func217, by kernel_rfl, ok217, xok_none _ _⟩, ⟨Tryz.f161, Tryz.func161, by kernel_rfl, ok161, xok_none _ _⟩, ⟨Tryz.f165, Tryz.func165, by kernel_rfl, ok165, xok_is⟩, ⟨Tryz.f65, Tryz.func65, by kernel_rfl, ok65, xok_none _ _⟩, ⟨Tryz.f58, Tryz.func58, by kernel_rfl, ok58, xok_none _ _⟩, ⟨Tryz.f260, Tryz.func260, by kernel_rfl, ok260, xok_none _ _⟩, ⟨Tryz.f219, Tryz.func219, by kernel_rfl, ok219, xok_none _ _⟩, ⟨Tryz.f67, Tryz.func67, by kernel_rfl, ok67, xok_none _ _⟩, ⟨Tryz.f172, Tryz.func172, by kernel_rfl, ok172, xok_none _ _⟩, ⟨Tryz.f162, Tryz.func162, by kernel_rfl, ok162, xok_none _ _⟩, ⟨Tryz.f59, Tryz.func59, by kernel_rfl, ok59, xok_none _ _⟩, ⟨Tryz.f14, Tryz.func14, by kernel_rfl, ok14, xok_none _ _⟩, ⟨Tryz.f20, Tryz.func20, by kernel_rfl, ok20, xok_none _ _⟩, ⟨Tryz.f66, Tryz.func66, by kernel_rfl, ok66, xok_none _ _⟩, ⟨Tryz.f21, Tryz.func21, by kernel_rfl, ok21, xok_none _ _⟩, ⟨Tryz.f4, Tryz.func4, by kernel_rfl, ok4, xok_none _ _⟩, ⟨Tryz.f171, Tryz.func171, by kernel_rfl, ok171, xok_none _ _⟩, ⟨Tryz.f78, Tryz.func78, by kernel_rfl, ok78, xok_none _ _⟩, ⟨Tryz.f79, Tryz.func79, by kernel_rfl, ok79, xok_none _ _⟩, ⟨Tryz.f28, Tryz.func28, by kernel_rfl, ok28, xok_none _ _⟩, ⟨Tryz.f80, Tryz.func80, by kernel_rfl, ok80, xok_none _ _⟩, ⟨Tryz.f29, Tryz.func29, by kernel_rfl, ok29, xok_none _ _⟩, ⟨Tryz.f168, Tryz.func168, by kernel_rfl, ok168, xok_none _ _⟩, ⟨Tryz.f81, Tryz.func81, by kernel_rfl, ok81, xok_none _ _⟩, ⟨Tryz.f74, Tryz.func74, by kernel_rfl, ok74, xok_none _ _⟩, ⟨Tryz.f30, Tryz.func30, by kernel_rfl, ok30, xok_none _ _⟩, ⟨Tryz.f73, Tryz.func73, by kernel_rfl, ok73, xok_none _ _⟩, ⟨Tryz.f25, Tryz.func25, by kernel_rfl, ok25, xok_none _ _⟩, ⟨Tryz.f6, Tryz.func6, by kernel_rfl, ok6, xok_none _ _⟩, trivial⟩ h
end Go.Proofs.YtcodfehgnjplcaaGreatDoor.Abs
