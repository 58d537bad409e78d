/- The functions that the law reaches, made ready for the interpreter (printed by a program of this session; the kernel compares each with the given program). -/
import Derived.Test.YtdnfnobgeddbfaaGreatDoorFLayP2
namespace Go.Proofs.YtdnfnobgeddbfaaGreatDoor.Abs
set_option linter.all false
set_option maxRecDepth 100000
def fnsL : List (FuncId × AFunc) := [(4, af4), (57, af57), (38, af38), (39, af39), (59, af59), (58, af58), (40, af40), (72, af72), (60, af60), (41, af41), (22, af22), (20, af20), (21, af21), (5, af5), (6, af6), (7, af7), (63, af63), (43, af43), (25, af25), (24, af24), (42, af42), (23, af23), (8, af8), (9, af9), (70, af70), (56, af56), (52, af52), (45, af45), (28, af28), (44, af44), (26, af26), (35, af35), (27, af27), (10, af10), (37, af37), (29, af29), (11, af11), (19, af19), (12, af12), (46, af46), (31, af31), (30, af30), (13, af13), (14, af14), (47, af47), (64, af64), (65, af65), (50, af50), (48, af48), (49, af49), (32, af32), (33, af33), (15, af15), (66, af66), (51, af51), (73, af73), (67, af67), (53, af53), (68, af68), (54, af54), (69, af69), (55, af55), (36, af36), (34, af34), (17, af17), (18, af18), (16, af16), (3, af3)]
def fns : FuncId → Option AFunc := fun f => fnsL.lookup f
theorem run4 {vs : List AV} {h0 : H} (hl : vs.length ≤ 18) {r : AV × H} (h : GoC fns (fun e => xends [.tmp 2] e = some r) [] k4_20 ⟨fun j => (vs[j]?).getD .undef, fun _ => none, h0⟩) : callω fns 4 vs h0 = some r :=
  callω_run fns (af := af4) rfl rfl rfl rfl hl h
theorem runs4 {vs : List AV} {h0 : H} (hl : vs.length ≤ 18) {p : AV × H → Prop} (h : GoC fns (fun e => Run (xends [.tmp 2] e) p) [] k4_20 ⟨fun j => (vs[j]?).getD .undef, fun _ => none, h0⟩) : CW fns 4 vs h0 p :=
  callω_runs fns (af := af4) rfl rfl rfl rfl hl h
theorem run57 {vs : List AV} {h0 : H} (hl : vs.length ≤ 38) {r : AV × H} (h : GoC fns (fun e => xends [.tmp 2, .tmp 3, .tmp 4] e = some r) [] k57_7 ⟨fun j => (vs[j]?).getD .undef, fun _ => none, h0⟩) : callω fns 57 vs h0 = some r :=
  callω_run fns (af := af57) rfl rfl rfl rfl hl h
theorem runs57 {vs : List AV} {h0 : H} (hl : vs.length ≤ 38) {p : AV × H → Prop} (h : GoC fns (fun e => Run (xends [.tmp 2, .tmp 3, .tmp 4] e) p) [] k57_7 ⟨fun j => (vs[j]?).getD .undef, fun _ => none, h0⟩) : CW fns 57 vs h0 p :=
  callω_runs fns (af := af57) rfl rfl rfl rfl hl h
theorem run38 {vs : List AV} {h0 : H} (hl : vs.length ≤ 20) {r : AV × H} (h : GoC fns (fun e => xends [.tmp 2, .tmp 3, .tmp 4] e = some r) [] k38_6 ⟨fun j => (vs[j]?).getD .undef, fun _ => none, h0⟩) : callω fns 38 vs h0 = some r :=
  callω_run fns (af := af38) rfl rfl rfl rfl hl h
theorem runs38 {vs : List AV} {h0 : H} (hl : vs.length ≤ 20) {p : AV × H → Prop} (h : GoC fns (fun e => Run (xends [.tmp 2, .tmp 3, .tmp 4] e) p) [] k38_6 ⟨fun j => (vs[j]?).getD .undef, fun _ => none, h0⟩) : CW fns 38 vs h0 p :=
  callω_runs fns (af := af38) rfl rfl rfl rfl hl h
theorem run39 {vs : List AV} {h0 : H} (hl : vs.length ≤ 8) {r : AV × H} (h : GoC fns (fun e => xends [.cell 4 true 2] e = some r) [] k39_1 ⟨fun j => (vs[j]?).getD .undef, fun _ => none, h0⟩) : callω fns 39 vs h0 = some r :=
  callω_run fns (af := af39) rfl rfl rfl rfl hl h
theorem runs39 {vs : List AV} {h0 : H} (hl : vs.length ≤ 8) {p : AV × H → Prop} (h : GoC fns (fun e => Run (xends [.cell 4 true 2] e) p) [] k39_1 ⟨fun j => (vs[j]?).getD .undef, fun _ => none, h0⟩) : CW fns 39 vs h0 p :=
  callω_runs fns (af := af39) rfl rfl rfl rfl hl h
theorem run59 {vs : List AV} {h0 : H} (hl : vs.length ≤ 8) {r : AV × H} (h : GoC fns (fun e => xends [.tmp 4] e = some r) [] k59_1 ⟨fun j => (vs[j]?).getD .undef, fun _ => none, h0⟩) : callω fns 59 vs h0 = some r :=
  callω_run fns (af := af59) rfl rfl rfl rfl hl h
theorem runs59 {vs : List AV} {h0 : H} (hl : vs.length ≤ 8) {p : AV × H → Prop} (h : GoC fns (fun e => Run (xends [.tmp 4] e) p) [] k59_1 ⟨fun j => (vs[j]?).getD .undef, fun _ => none, h0⟩) : CW fns 59 vs h0 p :=
  callω_runs fns (af := af59) rfl rfl rfl rfl hl h
theorem run58 {vs : List AV} {h0 : H} (hl : vs.length ≤ 94) {r : AV × H} (h : GoC fns (fun e => xends [.tmp 4, .tmp 5] e = some r) [] k58_81 ⟨fun j => (vs[j]?).getD .undef, fun _ => none, h0⟩) : callω fns 58 vs h0 = some r :=
  callω_run fns (af := af58) rfl rfl rfl rfl hl h
theorem runs58 {vs : List AV} {h0 : H} (hl : vs.length ≤ 94) {p : AV × H → Prop} (h : GoC fns (fun e => Run (xends [.tmp 4, .tmp 5] e) p) [] k58_81 ⟨fun j => (vs[j]?).getD .undef, fun _ => none, h0⟩) : CW fns 58 vs h0 p :=
  callω_runs fns (af := af58) rfl rfl rfl rfl hl h
theorem run40 {vs : List AV} {h0 : H} (hl : vs.length ≤ 63) {r : AV × H} (h : GoC fns (fun e => xends [.tmp 2, .tmp 3, .tmp 4] e = some r) [] k40_31 ⟨fun j => (vs[j]?).getD .undef, fun _ => none, h0⟩) : callω fns 40 vs h0 = some r :=
  callω_run fns (af := af40) rfl rfl rfl rfl hl h
theorem runs40 {vs : List AV} {h0 : H} (hl : vs.length ≤ 63) {p : AV × H → Prop} (h : GoC fns (fun e => Run (xends [.tmp 2, .tmp 3, .tmp 4] e) p) [] k40_31 ⟨fun j => (vs[j]?).getD .undef, fun _ => none, h0⟩) : CW fns 40 vs h0 p :=
  callω_runs fns (af := af40) rfl rfl rfl rfl hl h
theorem run72 {vs : List AV} {h0 : H} (hl : vs.length ≤ 31) {r : AV × H} (h : GoC fns (fun e => xends [.tmp 4, .tmp 5, .tmp 6] e = some r) [] k72_6 ⟨fun j => (vs[j]?).getD .undef, fun _ => none, h0⟩) : callω fns 72 vs h0 = some r :=
  callω_run fns (af := af72) rfl rfl rfl rfl hl h
theorem runs72 {vs : List AV} {h0 : H} (hl : vs.length ≤ 31) {p : AV × H → Prop} (h : GoC fns (fun e => Run (xends [.tmp 4, .tmp 5, .tmp 6] e) p) [] k72_6 ⟨fun j => (vs[j]?).getD .undef, fun _ => none, h0⟩) : CW fns 72 vs h0 p :=
  callω_runs fns (af := af72) rfl rfl rfl rfl hl h
theorem run60 {vs : List AV} {h0 : H} (hl : vs.length ≤ 23) {r : AV × H} (h : GoC fns (fun e => xends [.tmp 2] e = some r) [] k60_6 ⟨fun j => (vs[j]?).getD .undef, fun _ => none, h0⟩) : callω fns 60 vs h0 = some r :=
  callω_run fns (af := af60) rfl rfl rfl rfl hl h
theorem runs60 {vs : List AV} {h0 : H} (hl : vs.length ≤ 23) {p : AV × H → Prop} (h : GoC fns (fun e => Run (xends [.tmp 2] e) p) [] k60_6 ⟨fun j => (vs[j]?).getD .undef, fun _ => none, h0⟩) : CW fns 60 vs h0 p :=
  callω_runs fns (af := af60) rfl rfl rfl rfl hl h
theorem run41 {vs : List AV} {h0 : H} (hl : vs.length ≤ 23) {r : AV × H} (h : GoC fns (fun e => xends [.tmp 2] e = some r) [] k41_10 ⟨fun j => (vs[j]?).getD .undef, fun _ => none, h0⟩) : callω fns 41 vs h0 = some r :=
  callω_run fns (af := af41) rfl rfl rfl rfl hl h
theorem runs41 {vs : List AV} {h0 : H} (hl : vs.length ≤ 23) {p : AV × H → Prop} (h : GoC fns (fun e => Run (xends [.tmp 2] e) p) [] k41_10 ⟨fun j => (vs[j]?).getD .undef, fun _ => none, h0⟩) : CW fns 41 vs h0 p :=
  callω_runs fns (af := af41) rfl rfl rfl rfl hl h
theorem run22 {vs : List AV} {h0 : H} (hl : vs.length ≤ 55) {r : AV × H} (h : GoC fns (fun e => xends [.tmp 2, .tmp 3] e = some r) [] k22_29 ⟨fun j => (vs[j]?).getD .undef, fun _ => none, h0⟩) : callω fns 22 vs h0 = some r :=
  callω_run fns (af := af22) rfl rfl rfl rfl hl h
theorem runs22 {vs : List AV} {h0 : H} (hl : vs.length ≤ 55) {p : AV × H → Prop} (h : GoC fns (fun e => Run (xends [.tmp 2, .tmp 3] e) p) [] k22_29 ⟨fun j => (vs[j]?).getD .undef, fun _ => none, h0⟩) : CW fns 22 vs h0 p :=
  callω_runs fns (af := af22) rfl rfl rfl rfl hl h
theorem run20 {vs : List AV} {h0 : H} (hl : vs.length ≤ 37) {r : AV × H} (h : GoC fns (fun e => xends [.tmp 2, .tmp 3] e = some r) [] k20_25 ⟨fun j => (vs[j]?).getD .undef, fun _ => none, h0⟩) : callω fns 20 vs h0 = some r :=
  callω_run fns (af := af20) rfl rfl rfl rfl hl h
theorem runs20 {vs : List AV} {h0 : H} (hl : vs.length ≤ 37) {p : AV × H → Prop} (h : GoC fns (fun e => Run (xends [.tmp 2, .tmp 3] e) p) [] k20_25 ⟨fun j => (vs[j]?).getD .undef, fun _ => none, h0⟩) : CW fns 20 vs h0 p :=
  callω_runs fns (af := af20) rfl rfl rfl rfl hl h
theorem run21 {vs : List AV} {h0 : H} (hl : vs.length ≤ 5) {r : AV × H} (h : GoC fns (fun e => xends [.tmp 2] e = some r) [] k21_1 ⟨fun j => (vs[j]?).getD .undef, fun _ => none, h0⟩) : callω fns 21 vs h0 = some r :=
  callω_run fns (af := af21) rfl rfl rfl rfl hl h
theorem runs21 {vs : List AV} {h0 : H} (hl : vs.length ≤ 5) {p : AV × H → Prop} (h : GoC fns (fun e => Run (xends [.tmp 2] e) p) [] k21_1 ⟨fun j => (vs[j]?).getD .undef, fun _ => none, h0⟩) : CW fns 21 vs h0 p :=
  callω_runs fns (af := af21) rfl rfl rfl rfl hl h
theorem run5 {vs : List AV} {h0 : H} (hl : vs.length ≤ 29) {r : AV × H} (h : GoC fns (fun e => xends [.tmp 2, .tmp 3] e = some r) [] k5_16 ⟨fun j => (vs[j]?).getD .undef, fun _ => none, h0⟩) : callω fns 5 vs h0 = some r :=
  callω_run fns (af := af5) rfl rfl rfl rfl hl h
theorem runs5 {vs : List AV} {h0 : H} (hl : vs.length ≤ 29) {p : AV × H → Prop} (h : GoC fns (fun e => Run (xends [.tmp 2, .tmp 3] e) p) [] k5_16 ⟨fun j => (vs[j]?).getD .undef, fun _ => none, h0⟩) : CW fns 5 vs h0 p :=
  callω_runs fns (af := af5) rfl rfl rfl rfl hl h
theorem run6 {vs : List AV} {h0 : H} (hl : vs.length ≤ 29) {r : AV × H} (h : GoC fns (fun e => xends [.tmp 2, .tmp 3] e = some r) [] k6_16 ⟨fun j => (vs[j]?).getD .undef, fun _ => none, h0⟩) : callω fns 6 vs h0 = some r :=
  callω_run fns (af := af6) rfl rfl rfl rfl hl h
theorem runs6 {vs : List AV} {h0 : H} (hl : vs.length ≤ 29) {p : AV × H → Prop} (h : GoC fns (fun e => Run (xends [.tmp 2, .tmp 3] e) p) [] k6_16 ⟨fun j => (vs[j]?).getD .undef, fun _ => none, h0⟩) : CW fns 6 vs h0 p :=
  callω_runs fns (af := af6) rfl rfl rfl rfl hl h
theorem run7 {vs : List AV} {h0 : H} (hl : vs.length ≤ 28) {r : AV × H} (h : GoC fns (fun e => xends [.tmp 4] e = some r) [] k7_20 ⟨fun j => (vs[j]?).getD .undef, fun _ => none, h0⟩) : callω fns 7 vs h0 = some r :=
  callω_run fns (af := af7) rfl rfl rfl rfl hl h
theorem runs7 {vs : List AV} {h0 : H} (hl : vs.length ≤ 28) {p : AV × H → Prop} (h : GoC fns (fun e => Run (xends [.tmp 4] e) p) [] k7_20 ⟨fun j => (vs[j]?).getD .undef, fun _ => none, h0⟩) : CW fns 7 vs h0 p :=
  callω_runs fns (af := af7) rfl rfl rfl rfl hl h
theorem run63 {vs : List AV} {h0 : H} (hl : vs.length ≤ 10) {r : AV × H} (h : GoC fns (fun e => xends [.tmp 6] e = some r) [] k63_1 ⟨fun j => (vs[j]?).getD .undef, fun _ => none, h0⟩) : callω fns 63 vs h0 = some r :=
  callω_run fns (af := af63) rfl rfl rfl rfl hl h
theorem runs63 {vs : List AV} {h0 : H} (hl : vs.length ≤ 10) {p : AV × H → Prop} (h : GoC fns (fun e => Run (xends [.tmp 6] e) p) [] k63_1 ⟨fun j => (vs[j]?).getD .undef, fun _ => none, h0⟩) : CW fns 63 vs h0 p :=
  callω_runs fns (af := af63) rfl rfl rfl rfl hl h
theorem run43 {vs : List AV} {h0 : H} (hl : vs.length ≤ 8) {r : AV × H} (h : GoC fns (fun e => xends [.tmp 4] e = some r) [] k43_1 ⟨fun j => (vs[j]?).getD .undef, fun _ => none, h0⟩) : callω fns 43 vs h0 = some r :=
  callω_run fns (af := af43) rfl rfl rfl rfl hl h
theorem runs43 {vs : List AV} {h0 : H} (hl : vs.length ≤ 8) {p : AV × H → Prop} (h : GoC fns (fun e => Run (xends [.tmp 4] e) p) [] k43_1 ⟨fun j => (vs[j]?).getD .undef, fun _ => none, h0⟩) : CW fns 43 vs h0 p :=
  callω_runs fns (af := af43) rfl rfl rfl rfl hl h
theorem run25 {vs : List AV} {h0 : H} (hl : vs.length ≤ 76) {r : AV × H} (h : GoC fns (fun e => xends [.tmp 2] e = some r) [] k25_42 ⟨fun j => (vs[j]?).getD .undef, fun _ => none, h0⟩) : callω fns 25 vs h0 = some r :=
  callω_run fns (af := af25) rfl rfl rfl rfl hl h
theorem runs25 {vs : List AV} {h0 : H} (hl : vs.length ≤ 76) {p : AV × H → Prop} (h : GoC fns (fun e => Run (xends [.tmp 2] e) p) [] k25_42 ⟨fun j => (vs[j]?).getD .undef, fun _ => none, h0⟩) : CW fns 25 vs h0 p :=
  callω_runs fns (af := af25) rfl rfl rfl rfl hl h
theorem run24 {vs : List AV} {h0 : H} (hl : vs.length ≤ 5) {r : AV × H} (h : GoC fns (fun e => xends [.tmp 2] e = some r) [] k24_1 ⟨fun j => (vs[j]?).getD .undef, fun _ => none, h0⟩) : callω fns 24 vs h0 = some r :=
  callω_run fns (af := af24) rfl rfl rfl rfl hl h
theorem runs24 {vs : List AV} {h0 : H} (hl : vs.length ≤ 5) {p : AV × H → Prop} (h : GoC fns (fun e => Run (xends [.tmp 2] e) p) [] k24_1 ⟨fun j => (vs[j]?).getD .undef, fun _ => none, h0⟩) : CW fns 24 vs h0 p :=
  callω_runs fns (af := af24) rfl rfl rfl rfl hl h
theorem run23 {vs : List AV} {h0 : H} (hl : vs.length ≤ 42) {r : AV × H} (h : GoC fns (fun e => xends [.tmp 2] e = some r) [] k23_47 ⟨fun j => (vs[j]?).getD .undef, fun _ => none, h0⟩) : callω fns 23 vs h0 = some r :=
  callω_run fns (af := af23) rfl rfl rfl rfl hl h
theorem runs23 {vs : List AV} {h0 : H} (hl : vs.length ≤ 42) {p : AV × H → Prop} (h : GoC fns (fun e => Run (xends [.tmp 2] e) p) [] k23_47 ⟨fun j => (vs[j]?).getD .undef, fun _ => none, h0⟩) : CW fns 23 vs h0 p :=
  callω_runs fns (af := af23) rfl rfl rfl rfl hl h
theorem run8 {vs : List AV} {h0 : H} (hl : vs.length ≤ 6) {r : AV × H} (h : GoC fns (fun e => xends [.tmp 2] e = some r) [] k8_1 ⟨fun j => (vs[j]?).getD .undef, fun _ => none, h0⟩) : callω fns 8 vs h0 = some r :=
  callω_run fns (af := af8) rfl rfl rfl rfl hl h
theorem runs8 {vs : List AV} {h0 : H} (hl : vs.length ≤ 6) {p : AV × H → Prop} (h : GoC fns (fun e => Run (xends [.tmp 2] e) p) [] k8_1 ⟨fun j => (vs[j]?).getD .undef, fun _ => none, h0⟩) : CW fns 8 vs h0 p :=
  callω_runs fns (af := af8) rfl rfl rfl rfl hl h
theorem run9 {vs : List AV} {h0 : H} (hl : vs.length ≤ 6) {r : AV × H} (h : GoC fns (fun e => xends [.tmp 2] e = some r) [] k9_1 ⟨fun j => (vs[j]?).getD .undef, fun _ => none, h0⟩) : callω fns 9 vs h0 = some r :=
  callω_run fns (af := af9) rfl rfl rfl rfl hl h
theorem runs9 {vs : List AV} {h0 : H} (hl : vs.length ≤ 6) {p : AV × H → Prop} (h : GoC fns (fun e => Run (xends [.tmp 2] e) p) [] k9_1 ⟨fun j => (vs[j]?).getD .undef, fun _ => none, h0⟩) : CW fns 9 vs h0 p :=
  callω_runs fns (af := af9) rfl rfl rfl rfl hl h
theorem run70 {vs : List AV} {h0 : H} (hl : vs.length ≤ 25) {r : AV × H} (h : GoC fns (fun e => xends [.cell 4 true 2, .tmp 5, .tmp 6] e = some r) [] k70_6 ⟨fun j => (vs[j]?).getD .undef, fun _ => none, h0⟩) : callω fns 70 vs h0 = some r :=
  callω_run fns (af := af70) rfl rfl rfl rfl hl h
theorem runs70 {vs : List AV} {h0 : H} (hl : vs.length ≤ 25) {p : AV × H → Prop} (h : GoC fns (fun e => Run (xends [.cell 4 true 2, .tmp 5, .tmp 6] e) p) [] k70_6 ⟨fun j => (vs[j]?).getD .undef, fun _ => none, h0⟩) : CW fns 70 vs h0 p :=
  callω_runs fns (af := af70) rfl rfl rfl rfl hl h
theorem run56 {vs : List AV} {h0 : H} (hl : vs.length ≤ 40) {r : AV × H} (h : GoC fns (fun e => xends [.cell 2 true 2, .tmp 3] e = some r) [] k56_15 ⟨fun j => (vs[j]?).getD .undef, fun _ => none, h0⟩) : callω fns 56 vs h0 = some r :=
  callω_run fns (af := af56) rfl rfl rfl rfl hl h
theorem runs56 {vs : List AV} {h0 : H} (hl : vs.length ≤ 40) {p : AV × H → Prop} (h : GoC fns (fun e => Run (xends [.cell 2 true 2, .tmp 3] e) p) [] k56_15 ⟨fun j => (vs[j]?).getD .undef, fun _ => none, h0⟩) : CW fns 56 vs h0 p :=
  callω_runs fns (af := af56) rfl rfl rfl rfl hl h
theorem run52 {vs : List AV} {h0 : H} (hl : vs.length ≤ 11) {r : AV × H} (h : GoC fns (fun e => xends [.cell 2 true 2] e = some r) [] k52_2 ⟨fun j => (vs[j]?).getD .undef, fun _ => none, h0⟩) : callω fns 52 vs h0 = some r :=
  callω_run fns (af := af52) rfl rfl rfl rfl hl h
theorem runs52 {vs : List AV} {h0 : H} (hl : vs.length ≤ 11) {p : AV × H → Prop} (h : GoC fns (fun e => Run (xends [.cell 2 true 2] e) p) [] k52_2 ⟨fun j => (vs[j]?).getD .undef, fun _ => none, h0⟩) : CW fns 52 vs h0 p :=
  callω_runs fns (af := af52) rfl rfl rfl rfl hl h
theorem run45 {vs : List AV} {h0 : H} (hl : vs.length ≤ 57) {r : AV × H} (h : GoC fns (fun e => xends [.tmp 2, .tmp 3] e = some r) [] k45_29 ⟨fun j => (vs[j]?).getD .undef, fun _ => none, h0⟩) : callω fns 45 vs h0 = some r :=
  callω_run fns (af := af45) rfl rfl rfl rfl hl h
theorem runs45 {vs : List AV} {h0 : H} (hl : vs.length ≤ 57) {p : AV × H → Prop} (h : GoC fns (fun e => Run (xends [.tmp 2, .tmp 3] e) p) [] k45_29 ⟨fun j => (vs[j]?).getD .undef, fun _ => none, h0⟩) : CW fns 45 vs h0 p :=
  callω_runs fns (af := af45) rfl rfl rfl rfl hl h
theorem run28 {vs : List AV} {h0 : H} (hl : vs.length ≤ 8) {r : AV × H} (h : GoC fns (fun e => xends [.tmp 2, .tmp 3] e = some r) [] k28_1 ⟨fun j => (vs[j]?).getD .undef, fun _ => none, h0⟩) : callω fns 28 vs h0 = some r :=
  callω_run fns (af := af28) rfl rfl rfl rfl hl h
theorem runs28 {vs : List AV} {h0 : H} (hl : vs.length ≤ 8) {p : AV × H → Prop} (h : GoC fns (fun e => Run (xends [.tmp 2, .tmp 3] e) p) [] k28_1 ⟨fun j => (vs[j]?).getD .undef, fun _ => none, h0⟩) : CW fns 28 vs h0 p :=
  callω_runs fns (af := af28) rfl rfl rfl rfl hl h
theorem run44 {vs : List AV} {h0 : H} (hl : vs.length ≤ 8) {r : AV × H} (h : GoC fns (fun e => xends [.cell 2 true 2] e = some r) [] k44_1 ⟨fun j => (vs[j]?).getD .undef, fun _ => none, h0⟩) : callω fns 44 vs h0 = some r :=
  callω_run fns (af := af44) rfl rfl rfl rfl hl h
theorem runs44 {vs : List AV} {h0 : H} (hl : vs.length ≤ 8) {p : AV × H → Prop} (h : GoC fns (fun e => Run (xends [.cell 2 true 2] e) p) [] k44_1 ⟨fun j => (vs[j]?).getD .undef, fun _ => none, h0⟩) : CW fns 44 vs h0 p :=
  callω_runs fns (af := af44) rfl rfl rfl rfl hl h
theorem run26 {vs : List AV} {h0 : H} (hl : vs.length ≤ 31) {r : AV × H} (h : GoC fns (fun e => xends [.tmp 2, .tmp 3] e = some r) [] k26_16 ⟨fun j => (vs[j]?).getD .undef, fun _ => none, h0⟩) : callω fns 26 vs h0 = some r :=
  callω_run fns (af := af26) rfl rfl rfl rfl hl h
theorem runs26 {vs : List AV} {h0 : H} (hl : vs.length ≤ 31) {p : AV × H → Prop} (h : GoC fns (fun e => Run (xends [.tmp 2, .tmp 3] e) p) [] k26_16 ⟨fun j => (vs[j]?).getD .undef, fun _ => none, h0⟩) : CW fns 26 vs h0 p :=
  callω_runs fns (af := af26) rfl rfl rfl rfl hl h
theorem run35 {vs : List AV} {h0 : H} (hl : vs.length ≤ 10) {r : AV × H} (h : GoC fns (fun e => xends [.cell 2 true 2] e = some r) [] k35_1 ⟨fun j => (vs[j]?).getD .undef, fun _ => none, h0⟩) : callω fns 35 vs h0 = some r :=
  callω_run fns (af := af35) rfl rfl rfl rfl hl h
theorem runs35 {vs : List AV} {h0 : H} (hl : vs.length ≤ 10) {p : AV × H → Prop} (h : GoC fns (fun e => Run (xends [.cell 2 true 2] e) p) [] k35_1 ⟨fun j => (vs[j]?).getD .undef, fun _ => none, h0⟩) : CW fns 35 vs h0 p :=
  callω_runs fns (af := af35) rfl rfl rfl rfl hl h
theorem run27 {vs : List AV} {h0 : H} (hl : vs.length ≤ 19) {r : AV × H} (h : GoC fns (fun e => xends [.tmp 2] e = some r) [] k27_15 ⟨fun j => (vs[j]?).getD .undef, fun _ => none, h0⟩) : callω fns 27 vs h0 = some r :=
  callω_run fns (af := af27) rfl rfl rfl rfl hl h
theorem runs27 {vs : List AV} {h0 : H} (hl : vs.length ≤ 19) {p : AV × H → Prop} (h : GoC fns (fun e => Run (xends [.tmp 2] e) p) [] k27_15 ⟨fun j => (vs[j]?).getD .undef, fun _ => none, h0⟩) : CW fns 27 vs h0 p :=
  callω_runs fns (af := af27) rfl rfl rfl rfl hl h
theorem run10 {vs : List AV} {h0 : H} (hl : vs.length ≤ 15) {r : AV × H} (h : GoC fns (fun e => xends [.tmp 2, .tmp 3] e = some r) [] k10_2 ⟨fun j => (vs[j]?).getD .undef, fun _ => none, h0⟩) : callω fns 10 vs h0 = some r :=
  callω_run fns (af := af10) rfl rfl rfl rfl hl h
theorem runs10 {vs : List AV} {h0 : H} (hl : vs.length ≤ 15) {p : AV × H → Prop} (h : GoC fns (fun e => Run (xends [.tmp 2, .tmp 3] e) p) [] k10_2 ⟨fun j => (vs[j]?).getD .undef, fun _ => none, h0⟩) : CW fns 10 vs h0 p :=
  callω_runs fns (af := af10) rfl rfl rfl rfl hl h
theorem run37 {vs : List AV} {h0 : H} (hl : vs.length ≤ 10) {r : AV × H} (h : GoC fns (fun e => xends [.cell 2 true 2] e = some r) [] k37_1 ⟨fun j => (vs[j]?).getD .undef, fun _ => none, h0⟩) : callω fns 37 vs h0 = some r :=
  callω_run fns (af := af37) rfl rfl rfl rfl hl h
theorem runs37 {vs : List AV} {h0 : H} (hl : vs.length ≤ 10) {p : AV × H → Prop} (h : GoC fns (fun e => Run (xends [.cell 2 true 2] e) p) [] k37_1 ⟨fun j => (vs[j]?).getD .undef, fun _ => none, h0⟩) : CW fns 37 vs h0 p :=
  callω_runs fns (af := af37) rfl rfl rfl rfl hl h
theorem run29 {vs : List AV} {h0 : H} (hl : vs.length ≤ 19) {r : AV × H} (h : GoC fns (fun e => xends [.tmp 2] e = some r) [] k29_15 ⟨fun j => (vs[j]?).getD .undef, fun _ => none, h0⟩) : callω fns 29 vs h0 = some r :=
  callω_run fns (af := af29) rfl rfl rfl rfl hl h
theorem runs29 {vs : List AV} {h0 : H} (hl : vs.length ≤ 19) {p : AV × H → Prop} (h : GoC fns (fun e => Run (xends [.tmp 2] e) p) [] k29_15 ⟨fun j => (vs[j]?).getD .undef, fun _ => none, h0⟩) : CW fns 29 vs h0 p :=
  callω_runs fns (af := af29) rfl rfl rfl rfl hl h
theorem run11 {vs : List AV} {h0 : H} (hl : vs.length ≤ 15) {r : AV × H} (h : GoC fns (fun e => xends [.tmp 2, .tmp 3] e = some r) [] k11_2 ⟨fun j => (vs[j]?).getD .undef, fun _ => none, h0⟩) : callω fns 11 vs h0 = some r :=
  callω_run fns (af := af11) rfl rfl rfl rfl hl h
theorem runs11 {vs : List AV} {h0 : H} (hl : vs.length ≤ 15) {p : AV × H → Prop} (h : GoC fns (fun e => Run (xends [.tmp 2, .tmp 3] e) p) [] k11_2 ⟨fun j => (vs[j]?).getD .undef, fun _ => none, h0⟩) : CW fns 11 vs h0 p :=
  callω_runs fns (af := af11) rfl rfl rfl rfl hl h
theorem run19 {vs : List AV} {h0 : H} (hl : vs.length ≤ 19) {r : AV × H} (h : GoC fns (fun e => xends [.tmp 4] e = some r) [] k19_1 ⟨fun j => (vs[j]?).getD .undef, fun _ => none, h0⟩) : callω fns 19 vs h0 = some r :=
  callω_run fns (af := af19) rfl rfl rfl rfl hl h
theorem runs19 {vs : List AV} {h0 : H} (hl : vs.length ≤ 19) {p : AV × H → Prop} (h : GoC fns (fun e => Run (xends [.tmp 4] e) p) [] k19_1 ⟨fun j => (vs[j]?).getD .undef, fun _ => none, h0⟩) : CW fns 19 vs h0 p :=
  callω_runs fns (af := af19) rfl rfl rfl rfl hl h
theorem run12 {vs : List AV} {h0 : H} (hl : vs.length ≤ 27) {r : AV × H} (h : GoC fns (fun e => xends [.tmp 4] e = some r) [] k12_20 ⟨fun j => (vs[j]?).getD .undef, fun _ => none, h0⟩) : callω fns 12 vs h0 = some r :=
  callω_run fns (af := af12) rfl rfl rfl rfl hl h
theorem runs12 {vs : List AV} {h0 : H} (hl : vs.length ≤ 27) {p : AV × H → Prop} (h : GoC fns (fun e => Run (xends [.tmp 4] e) p) [] k12_20 ⟨fun j => (vs[j]?).getD .undef, fun _ => none, h0⟩) : CW fns 12 vs h0 p :=
  callω_runs fns (af := af12) rfl rfl rfl rfl hl h
theorem run46 {vs : List AV} {h0 : H} (hl : vs.length ≤ 51) {r : AV × H} (h : GoC fns (fun e => xends [.tmp 4, .tmp 5] e = some r) [] k46_28 ⟨fun j => (vs[j]?).getD .undef, fun _ => none, h0⟩) : callω fns 46 vs h0 = some r :=
  callω_run fns (af := af46) rfl rfl rfl rfl hl h
theorem runs46 {vs : List AV} {h0 : H} (hl : vs.length ≤ 51) {p : AV × H → Prop} (h : GoC fns (fun e => Run (xends [.tmp 4, .tmp 5] e) p) [] k46_28 ⟨fun j => (vs[j]?).getD .undef, fun _ => none, h0⟩) : CW fns 46 vs h0 p :=
  callω_runs fns (af := af46) rfl rfl rfl rfl hl h
theorem run31 {vs : List AV} {h0 : H} (hl : vs.length ≤ 11) {r : AV × H} (h : GoC fns (fun e => xends [.tmp 4, .tmp 5] e = some r) [] k31_1 ⟨fun j => (vs[j]?).getD .undef, fun _ => none, h0⟩) : callω fns 31 vs h0 = some r :=
  callω_run fns (af := af31) rfl rfl rfl rfl hl h
theorem runs31 {vs : List AV} {h0 : H} (hl : vs.length ≤ 11) {p : AV × H → Prop} (h : GoC fns (fun e => Run (xends [.tmp 4, .tmp 5] e) p) [] k31_1 ⟨fun j => (vs[j]?).getD .undef, fun _ => none, h0⟩) : CW fns 31 vs h0 p :=
  callω_runs fns (af := af31) rfl rfl rfl rfl hl h
theorem run30 {vs : List AV} {h0 : H} (hl : vs.length ≤ 16) {r : AV × H} (h : GoC fns (fun e => xends [.tmp 4, .tmp 5] e = some r) [] k30_2 ⟨fun j => (vs[j]?).getD .undef, fun _ => none, h0⟩) : callω fns 30 vs h0 = some r :=
  callω_run fns (af := af30) rfl rfl rfl rfl hl h
theorem runs30 {vs : List AV} {h0 : H} (hl : vs.length ≤ 16) {p : AV × H → Prop} (h : GoC fns (fun e => Run (xends [.tmp 4, .tmp 5] e) p) [] k30_2 ⟨fun j => (vs[j]?).getD .undef, fun _ => none, h0⟩) : CW fns 30 vs h0 p :=
  callω_runs fns (af := af30) rfl rfl rfl rfl hl h
theorem run13 {vs : List AV} {h0 : H} (hl : vs.length ≤ 19) {r : AV × H} (h : GoC fns (fun e => xends [.tmp 4, .tmp 5] e = some r) [] k13_2 ⟨fun j => (vs[j]?).getD .undef, fun _ => none, h0⟩) : callω fns 13 vs h0 = some r :=
  callω_run fns (af := af13) rfl rfl rfl rfl hl h
theorem runs13 {vs : List AV} {h0 : H} (hl : vs.length ≤ 19) {p : AV × H → Prop} (h : GoC fns (fun e => Run (xends [.tmp 4, .tmp 5] e) p) [] k13_2 ⟨fun j => (vs[j]?).getD .undef, fun _ => none, h0⟩) : CW fns 13 vs h0 p :=
  callω_runs fns (af := af13) rfl rfl rfl rfl hl h
theorem run14 {vs : List AV} {h0 : H} (hl : vs.length ≤ 19) {r : AV × H} (h : GoC fns (fun e => xends [.tmp 4, .tmp 5] e = some r) [] k14_2 ⟨fun j => (vs[j]?).getD .undef, fun _ => none, h0⟩) : callω fns 14 vs h0 = some r :=
  callω_run fns (af := af14) rfl rfl rfl rfl hl h
theorem runs14 {vs : List AV} {h0 : H} (hl : vs.length ≤ 19) {p : AV × H → Prop} (h : GoC fns (fun e => Run (xends [.tmp 4, .tmp 5] e) p) [] k14_2 ⟨fun j => (vs[j]?).getD .undef, fun _ => none, h0⟩) : CW fns 14 vs h0 p :=
  callω_runs fns (af := af14) rfl rfl rfl rfl hl h
theorem run47 {vs : List AV} {h0 : H} (hl : vs.length ≤ 31) {r : AV × H} (h : GoC fns (fun e => xends [.tmp 2, .tmp 3] e = some r) [] k47_5 ⟨fun j => (vs[j]?).getD .undef, fun _ => none, h0⟩) : callω fns 47 vs h0 = some r :=
  callω_run fns (af := af47) rfl rfl rfl rfl hl h
theorem runs47 {vs : List AV} {h0 : H} (hl : vs.length ≤ 31) {p : AV × H → Prop} (h : GoC fns (fun e => Run (xends [.tmp 2, .tmp 3] e) p) [] k47_5 ⟨fun j => (vs[j]?).getD .undef, fun _ => none, h0⟩) : CW fns 47 vs h0 p :=
  callω_runs fns (af := af47) rfl rfl rfl rfl hl h
theorem run64 {vs : List AV} {h0 : H} (hl : vs.length ≤ 23) {r : AV × H} (h : GoC fns (fun e => xends [.tmp 2, .tmp 3, .tmp 4] e = some r) [] k64_15 ⟨fun j => (vs[j]?).getD .undef, fun _ => none, h0⟩) : callω fns 64 vs h0 = some r :=
  callω_run fns (af := af64) rfl rfl rfl rfl hl h
theorem runs64 {vs : List AV} {h0 : H} (hl : vs.length ≤ 23) {p : AV × H → Prop} (h : GoC fns (fun e => Run (xends [.tmp 2, .tmp 3, .tmp 4] e) p) [] k64_15 ⟨fun j => (vs[j]?).getD .undef, fun _ => none, h0⟩) : CW fns 64 vs h0 p :=
  callω_runs fns (af := af64) rfl rfl rfl rfl hl h
theorem run65 {vs : List AV} {h0 : H} (hl : vs.length ≤ 140) {r : AV × H} (h : GoC fns (fun e => xends [.tmp 4, .tmp 5] e = some r) [] k65_64 ⟨fun j => (vs[j]?).getD .undef, fun _ => none, h0⟩) : callω fns 65 vs h0 = some r :=
  callω_run fns (af := af65) rfl rfl rfl rfl hl h
theorem runs65 {vs : List AV} {h0 : H} (hl : vs.length ≤ 140) {p : AV × H → Prop} (h : GoC fns (fun e => Run (xends [.tmp 4, .tmp 5] e) p) [] k65_64 ⟨fun j => (vs[j]?).getD .undef, fun _ => none, h0⟩) : CW fns 65 vs h0 p :=
  callω_runs fns (af := af65) rfl rfl rfl rfl hl h
theorem run50 {vs : List AV} {h0 : H} (hl : vs.length ≤ 69) {r : AV × H} (h : GoC fns (fun e => xends [.tmp 4, .tmp 5] e = some r) [] k50_24 ⟨fun j => (vs[j]?).getD .undef, fun _ => none, h0⟩) : callω fns 50 vs h0 = some r :=
  callω_run fns (af := af50) rfl rfl rfl rfl hl h
theorem runs50 {vs : List AV} {h0 : H} (hl : vs.length ≤ 69) {p : AV × H → Prop} (h : GoC fns (fun e => Run (xends [.tmp 4, .tmp 5] e) p) [] k50_24 ⟨fun j => (vs[j]?).getD .undef, fun _ => none, h0⟩) : CW fns 50 vs h0 p :=
  callω_runs fns (af := af50) rfl rfl rfl rfl hl h
theorem run48 {vs : List AV} {h0 : H} (hl : vs.length ≤ 38) {r : AV × H} (h : GoC fns (fun e => xends [.tmp 2, .tmp 3] e = some r) [] k48_11 ⟨fun j => (vs[j]?).getD .undef, fun _ => none, h0⟩) : callω fns 48 vs h0 = some r :=
  callω_run fns (af := af48) rfl rfl rfl rfl hl h
theorem runs48 {vs : List AV} {h0 : H} (hl : vs.length ≤ 38) {p : AV × H → Prop} (h : GoC fns (fun e => Run (xends [.tmp 2, .tmp 3] e) p) [] k48_11 ⟨fun j => (vs[j]?).getD .undef, fun _ => none, h0⟩) : CW fns 48 vs h0 p :=
  callω_runs fns (af := af48) rfl rfl rfl rfl hl h
theorem run49 {vs : List AV} {h0 : H} (hl : vs.length ≤ 25) {r : AV × H} (h : GoC fns (fun e => xends [.cell 2 true 4] e = some r) [] k49_2 ⟨fun j => (vs[j]?).getD .undef, fun _ => none, h0⟩) : callω fns 49 vs h0 = some r :=
  callω_run fns (af := af49) rfl rfl rfl rfl hl h
theorem runs49 {vs : List AV} {h0 : H} (hl : vs.length ≤ 25) {p : AV × H → Prop} (h : GoC fns (fun e => Run (xends [.cell 2 true 4] e) p) [] k49_2 ⟨fun j => (vs[j]?).getD .undef, fun _ => none, h0⟩) : CW fns 49 vs h0 p :=
  callω_runs fns (af := af49) rfl rfl rfl rfl hl h
theorem run32 {vs : List AV} {h0 : H} (hl : vs.length ≤ 52) {r : AV × H} (h : GoC fns (fun e => xends [.tmp 2, .tmp 3, .tmp 4] e = some r) [] k32_23 ⟨fun j => (vs[j]?).getD .undef, fun _ => none, h0⟩) : callω fns 32 vs h0 = some r :=
  callω_run fns (af := af32) rfl rfl rfl rfl hl h
theorem runs32 {vs : List AV} {h0 : H} (hl : vs.length ≤ 52) {p : AV × H → Prop} (h : GoC fns (fun e => Run (xends [.tmp 2, .tmp 3, .tmp 4] e) p) [] k32_23 ⟨fun j => (vs[j]?).getD .undef, fun _ => none, h0⟩) : CW fns 32 vs h0 p :=
  callω_runs fns (af := af32) rfl rfl rfl rfl hl h
theorem run33 {vs : List AV} {h0 : H} (hl : vs.length ≤ 16) {r : AV × H} (h : GoC fns (fun e => xends [.tmp 2] e = some r) [] k33_2 ⟨fun j => (vs[j]?).getD .undef, fun _ => none, h0⟩) : callω fns 33 vs h0 = some r :=
  callω_run fns (af := af33) rfl rfl rfl rfl hl h
theorem runs33 {vs : List AV} {h0 : H} (hl : vs.length ≤ 16) {p : AV × H → Prop} (h : GoC fns (fun e => Run (xends [.tmp 2] e) p) [] k33_2 ⟨fun j => (vs[j]?).getD .undef, fun _ => none, h0⟩) : CW fns 33 vs h0 p :=
  callω_runs fns (af := af33) rfl rfl rfl rfl hl h
theorem run15 {vs : List AV} {h0 : H} (hl : vs.length ≤ 60) {r : AV × H} (h : GoC fns (fun e => xends [.tmp 4] e = some r) [] k15_25 ⟨fun j => (vs[j]?).getD .undef, fun _ => none, h0⟩) : callω fns 15 vs h0 = some r :=
  callω_run fns (af := af15) rfl rfl rfl rfl hl h
theorem runs15 {vs : List AV} {h0 : H} (hl : vs.length ≤ 60) {p : AV × H → Prop} (h : GoC fns (fun e => Run (xends [.tmp 4] e) p) [] k15_25 ⟨fun j => (vs[j]?).getD .undef, fun _ => none, h0⟩) : CW fns 15 vs h0 p :=
  callω_runs fns (af := af15) rfl rfl rfl rfl hl h
theorem run66 {vs : List AV} {h0 : H} (hl : vs.length ≤ 19) {r : AV × H} (h : GoC fns (fun e => xends [.tmp 2, .tmp 3] e = some r) [] k66_10 ⟨fun j => (vs[j]?).getD .undef, fun _ => none, h0⟩) : callω fns 66 vs h0 = some r :=
  callω_run fns (af := af66) rfl rfl rfl rfl hl h
theorem runs66 {vs : List AV} {h0 : H} (hl : vs.length ≤ 19) {p : AV × H → Prop} (h : GoC fns (fun e => Run (xends [.tmp 2, .tmp 3] e) p) [] k66_10 ⟨fun j => (vs[j]?).getD .undef, fun _ => none, h0⟩) : CW fns 66 vs h0 p :=
  callω_runs fns (af := af66) rfl rfl rfl rfl hl h
theorem run51 {vs : List AV} {h0 : H} (hl : vs.length ≤ 11) {r : AV × H} (h : GoC fns (fun e => xends [.tmp 2] e = some r) [] k51_2 ⟨fun j => (vs[j]?).getD .undef, fun _ => none, h0⟩) : callω fns 51 vs h0 = some r :=
  callω_run fns (af := af51) rfl rfl rfl rfl hl h
theorem runs51 {vs : List AV} {h0 : H} (hl : vs.length ≤ 11) {p : AV × H → Prop} (h : GoC fns (fun e => Run (xends [.tmp 2] e) p) [] k51_2 ⟨fun j => (vs[j]?).getD .undef, fun _ => none, h0⟩) : CW fns 51 vs h0 p :=
  callω_runs fns (af := af51) rfl rfl rfl rfl hl h
theorem run73 {vs : List AV} {h0 : H} (hl : vs.length ≤ 32) {r : AV × H} (h : GoC fns (fun e => xends [.tmp 2, .tmp 3, .tmp 4] e = some r) [] k73_14 ⟨fun j => (vs[j]?).getD .undef, fun _ => none, h0⟩) : callω fns 73 vs h0 = some r :=
  callω_run fns (af := af73) rfl rfl rfl rfl hl h
theorem runs73 {vs : List AV} {h0 : H} (hl : vs.length ≤ 32) {p : AV × H → Prop} (h : GoC fns (fun e => Run (xends [.tmp 2, .tmp 3, .tmp 4] e) p) [] k73_14 ⟨fun j => (vs[j]?).getD .undef, fun _ => none, h0⟩) : CW fns 73 vs h0 p :=
  callω_runs fns (af := af73) rfl rfl rfl rfl hl h
theorem run67 {vs : List AV} {h0 : H} (hl : vs.length ≤ 10) {r : AV × H} (h : GoC fns (fun e => xends [.tmp 2, .tmp 3, .tmp 4] e = some r) [] k67_1 ⟨fun j => (vs[j]?).getD .undef, fun _ => none, h0⟩) : callω fns 67 vs h0 = some r :=
  callω_run fns (af := af67) rfl rfl rfl rfl hl h
theorem runs67 {vs : List AV} {h0 : H} (hl : vs.length ≤ 10) {p : AV × H → Prop} (h : GoC fns (fun e => Run (xends [.tmp 2, .tmp 3, .tmp 4] e) p) [] k67_1 ⟨fun j => (vs[j]?).getD .undef, fun _ => none, h0⟩) : CW fns 67 vs h0 p :=
  callω_runs fns (af := af67) rfl rfl rfl rfl hl h
theorem run53 {vs : List AV} {h0 : H} (hl : vs.length ≤ 29) {r : AV × H} (h : GoC fns (fun e => xends [.tmp 2] e = some r) [] k53_10 ⟨fun j => (vs[j]?).getD .undef, fun _ => none, h0⟩) : callω fns 53 vs h0 = some r :=
  callω_run fns (af := af53) rfl rfl rfl rfl hl h
theorem runs53 {vs : List AV} {h0 : H} (hl : vs.length ≤ 29) {p : AV × H → Prop} (h : GoC fns (fun e => Run (xends [.tmp 2] e) p) [] k53_10 ⟨fun j => (vs[j]?).getD .undef, fun _ => none, h0⟩) : CW fns 53 vs h0 p :=
  callω_runs fns (af := af53) rfl rfl rfl rfl hl h
theorem run68 {vs : List AV} {h0 : H} (hl : vs.length ≤ 10) {r : AV × H} (h : GoC fns (fun e => xends [.tmp 2, .tmp 3, .tmp 4] e = some r) [] k68_1 ⟨fun j => (vs[j]?).getD .undef, fun _ => none, h0⟩) : callω fns 68 vs h0 = some r :=
  callω_run fns (af := af68) rfl rfl rfl rfl hl h
theorem runs68 {vs : List AV} {h0 : H} (hl : vs.length ≤ 10) {p : AV × H → Prop} (h : GoC fns (fun e => Run (xends [.tmp 2, .tmp 3, .tmp 4] e) p) [] k68_1 ⟨fun j => (vs[j]?).getD .undef, fun _ => none, h0⟩) : CW fns 68 vs h0 p :=
  callω_runs fns (af := af68) rfl rfl rfl rfl hl h
theorem run54 {vs : List AV} {h0 : H} (hl : vs.length ≤ 29) {r : AV × H} (h : GoC fns (fun e => xends [.tmp 2] e = some r) [] k54_10 ⟨fun j => (vs[j]?).getD .undef, fun _ => none, h0⟩) : callω fns 54 vs h0 = some r :=
  callω_run fns (af := af54) rfl rfl rfl rfl hl h
theorem runs54 {vs : List AV} {h0 : H} (hl : vs.length ≤ 29) {p : AV × H → Prop} (h : GoC fns (fun e => Run (xends [.tmp 2] e) p) [] k54_10 ⟨fun j => (vs[j]?).getD .undef, fun _ => none, h0⟩) : CW fns 54 vs h0 p :=
  callω_runs fns (af := af54) rfl rfl rfl rfl hl h
theorem run69 {vs : List AV} {h0 : H} (hl : vs.length ≤ 14) {r : AV × H} (h : GoC fns (fun e => xends [.tmp 2, .tmp 3] e = some r) [] k69_2 ⟨fun j => (vs[j]?).getD .undef, fun _ => none, h0⟩) : callω fns 69 vs h0 = some r :=
  callω_run fns (af := af69) rfl rfl rfl rfl hl h
theorem runs69 {vs : List AV} {h0 : H} (hl : vs.length ≤ 14) {p : AV × H → Prop} (h : GoC fns (fun e => Run (xends [.tmp 2, .tmp 3] e) p) [] k69_2 ⟨fun j => (vs[j]?).getD .undef, fun _ => none, h0⟩) : CW fns 69 vs h0 p :=
  callω_runs fns (af := af69) rfl rfl rfl rfl hl h
theorem run55 {vs : List AV} {h0 : H} (hl : vs.length ≤ 11) {r : AV × H} (h : GoC fns (fun e => xends [.tmp 2] e = some r) [] k55_2 ⟨fun j => (vs[j]?).getD .undef, fun _ => none, h0⟩) : callω fns 55 vs h0 = some r :=
  callω_run fns (af := af55) rfl rfl rfl rfl hl h
theorem runs55 {vs : List AV} {h0 : H} (hl : vs.length ≤ 11) {p : AV × H → Prop} (h : GoC fns (fun e => Run (xends [.tmp 2] e) p) [] k55_2 ⟨fun j => (vs[j]?).getD .undef, fun _ => none, h0⟩) : CW fns 55 vs h0 p :=
  callω_runs fns (af := af55) rfl rfl rfl rfl hl h
theorem run36 {vs : List AV} {h0 : H} (hl : vs.length ≤ 113) {r : AV × H} (h : GoC fns (fun e => xends [.cell 4 true 2, .tmp 5] e = some r) [] k36_53 ⟨fun j => (vs[j]?).getD .undef, fun _ => none, h0⟩) : callω fns 36 vs h0 = some r :=
  callω_run fns (af := af36) rfl rfl rfl rfl hl h
theorem runs36 {vs : List AV} {h0 : H} (hl : vs.length ≤ 113) {p : AV × H → Prop} (h : GoC fns (fun e => Run (xends [.cell 4 true 2, .tmp 5] e) p) [] k36_53 ⟨fun j => (vs[j]?).getD .undef, fun _ => none, h0⟩) : CW fns 36 vs h0 p :=
  callω_runs fns (af := af36) rfl rfl rfl rfl hl h
theorem run34 {vs : List AV} {h0 : H} (hl : vs.length ≤ 17) {r : AV × H} (h : GoC fns (fun e => xends [.cell 4 true 2, .tmp 5] e = some r) [] k34_2 ⟨fun j => (vs[j]?).getD .undef, fun _ => none, h0⟩) : callω fns 34 vs h0 = some r :=
  callω_run fns (af := af34) rfl rfl rfl rfl hl h
theorem runs34 {vs : List AV} {h0 : H} (hl : vs.length ≤ 17) {p : AV × H → Prop} (h : GoC fns (fun e => Run (xends [.cell 4 true 2, .tmp 5] e) p) [] k34_2 ⟨fun j => (vs[j]?).getD .undef, fun _ => none, h0⟩) : CW fns 34 vs h0 p :=
  callω_runs fns (af := af34) rfl rfl rfl rfl hl h
theorem run17 {vs : List AV} {h0 : H} (hl : vs.length ≤ 18) {r : AV × H} (h : GoC fns (fun e => xends [.cell 4 true 2, .tmp 5] e = some r) [] k17_2 ⟨fun j => (vs[j]?).getD .undef, fun _ => none, h0⟩) : callω fns 17 vs h0 = some r :=
  callω_run fns (af := af17) rfl rfl rfl rfl hl h
theorem runs17 {vs : List AV} {h0 : H} (hl : vs.length ≤ 18) {p : AV × H → Prop} (h : GoC fns (fun e => Run (xends [.cell 4 true 2, .tmp 5] e) p) [] k17_2 ⟨fun j => (vs[j]?).getD .undef, fun _ => none, h0⟩) : CW fns 17 vs h0 p :=
  callω_runs fns (af := af17) rfl rfl rfl rfl hl h
theorem run18 {vs : List AV} {h0 : H} (hl : vs.length ≤ 18) {r : AV × H} (h : GoC fns (fun e => xends [.cell 4 true 2, .tmp 5] e = some r) [] k18_2 ⟨fun j => (vs[j]?).getD .undef, fun _ => none, h0⟩) : callω fns 18 vs h0 = some r :=
  callω_run fns (af := af18) rfl rfl rfl rfl hl h
theorem runs18 {vs : List AV} {h0 : H} (hl : vs.length ≤ 18) {p : AV × H → Prop} (h : GoC fns (fun e => Run (xends [.cell 4 true 2, .tmp 5] e) p) [] k18_2 ⟨fun j => (vs[j]?).getD .undef, fun _ => none, h0⟩) : CW fns 18 vs h0 p :=
  callω_runs fns (af := af18) rfl rfl rfl rfl hl h
theorem run16 {vs : List AV} {h0 : H} (hl : vs.length ≤ 36) {r : AV × H} (h : GoC fns (fun e => xends [.tmp 0] e = some r) [] k16_4 ⟨fun j => (vs[j]?).getD .undef, fun _ => none, h0⟩) : callω fns 16 vs h0 = some r :=
  callω_run fns (af := af16) rfl rfl rfl rfl hl h
theorem runs16 {vs : List AV} {h0 : H} (hl : vs.length ≤ 36) {p : AV × H → Prop} (h : GoC fns (fun e => Run (xends [.tmp 0] e) p) [] k16_4 ⟨fun j => (vs[j]?).getD .undef, fun _ => none, h0⟩) : CW fns 16 vs h0 p :=
  callω_runs fns (af := af16) rfl rfl rfl rfl hl h
theorem run3 {vs : List AV} {h0 : H} (hl : vs.length ≤ 155) {r : AV × H} (h : GoC fns (fun e => xends [.tmp 6] e = some r) [] k3_29 ⟨fun j => (vs[j]?).getD .undef, fun _ => none, h0⟩) : callω fns 3 vs h0 = some r :=
  callω_run fns (af := af3) rfl rfl rfl rfl hl h
theorem runs3 {vs : List AV} {h0 : H} (hl : vs.length ≤ 155) {p : AV × H → Prop} (h : GoC fns (fun e => Run (xends [.tmp 6] e) p) [] k3_29 ⟨fun j => (vs[j]?).getD .undef, fun _ => none, h0⟩) : CW fns 3 vs h0 p :=
  callω_runs fns (af := af3) rfl rfl rfl rfl hl h

theorem runv4 {vs : List AV} {h0 : H} (hl : vs.length ≤ 18) {v : AV} (h : GoC fns (fun e => Run (xends [.tmp 2] e) fun q => noHeap h0.n q = some v) [] k4_20 ⟨fun j => (vs[j]?).getD .undef, fun _ => none, h0⟩) : callv fns 4 vs h0 = some v :=
  callω_runv fns (af := af4) rfl rfl rfl rfl hl h
theorem runv57 {vs : List AV} {h0 : H} (hl : vs.length ≤ 38) {v : AV} (h : GoC fns (fun e => Run (xends [.tmp 2, .tmp 3, .tmp 4] e) fun q => noHeap h0.n q = some v) [] k57_7 ⟨fun j => (vs[j]?).getD .undef, fun _ => none, h0⟩) : callv fns 57 vs h0 = some v :=
  callω_runv fns (af := af57) rfl rfl rfl rfl hl h
theorem runv38 {vs : List AV} {h0 : H} (hl : vs.length ≤ 20) {v : AV} (h : GoC fns (fun e => Run (xends [.tmp 2, .tmp 3, .tmp 4] e) fun q => noHeap h0.n q = some v) [] k38_6 ⟨fun j => (vs[j]?).getD .undef, fun _ => none, h0⟩) : callv fns 38 vs h0 = some v :=
  callω_runv fns (af := af38) rfl rfl rfl rfl hl h
theorem runv39 {vs : List AV} {h0 : H} (hl : vs.length ≤ 8) {v : AV} (h : GoC fns (fun e => Run (xends [.cell 4 true 2] e) fun q => noHeap h0.n q = some v) [] k39_1 ⟨fun j => (vs[j]?).getD .undef, fun _ => none, h0⟩) : callv fns 39 vs h0 = some v :=
  callω_runv fns (af := af39) rfl rfl rfl rfl hl h
theorem runv59 {vs : List AV} {h0 : H} (hl : vs.length ≤ 8) {v : AV} (h : GoC fns (fun e => Run (xends [.tmp 4] e) fun q => noHeap h0.n q = some v) [] k59_1 ⟨fun j => (vs[j]?).getD .undef, fun _ => none, h0⟩) : callv fns 59 vs h0 = some v :=
  callω_runv fns (af := af59) rfl rfl rfl rfl hl h
theorem runv58 {vs : List AV} {h0 : H} (hl : vs.length ≤ 94) {v : AV} (h : GoC fns (fun e => Run (xends [.tmp 4, .tmp 5] e) fun q => noHeap h0.n q = some v) [] k58_81 ⟨fun j => (vs[j]?).getD .undef, fun _ => none, h0⟩) : callv fns 58 vs h0 = some v :=
  callω_runv fns (af := af58) rfl rfl rfl rfl hl h
theorem runv40 {vs : List AV} {h0 : H} (hl : vs.length ≤ 63) {v : AV} (h : GoC fns (fun e => Run (xends [.tmp 2, .tmp 3, .tmp 4] e) fun q => noHeap h0.n q = some v) [] k40_31 ⟨fun j => (vs[j]?).getD .undef, fun _ => none, h0⟩) : callv fns 40 vs h0 = some v :=
  callω_runv fns (af := af40) rfl rfl rfl rfl hl h
theorem runv72 {vs : List AV} {h0 : H} (hl : vs.length ≤ 31) {v : AV} (h : GoC fns (fun e => Run (xends [.tmp 4, .tmp 5, .tmp 6] e) fun q => noHeap h0.n q = some v) [] k72_6 ⟨fun j => (vs[j]?).getD .undef, fun _ => none, h0⟩) : callv fns 72 vs h0 = some v :=
  callω_runv fns (af := af72) rfl rfl rfl rfl hl h
theorem runv60 {vs : List AV} {h0 : H} (hl : vs.length ≤ 23) {v : AV} (h : GoC fns (fun e => Run (xends [.tmp 2] e) fun q => noHeap h0.n q = some v) [] k60_6 ⟨fun j => (vs[j]?).getD .undef, fun _ => none, h0⟩) : callv fns 60 vs h0 = some v :=
  callω_runv fns (af := af60) rfl rfl rfl rfl hl h
theorem runv41 {vs : List AV} {h0 : H} (hl : vs.length ≤ 23) {v : AV} (h : GoC fns (fun e => Run (xends [.tmp 2] e) fun q => noHeap h0.n q = some v) [] k41_10 ⟨fun j => (vs[j]?).getD .undef, fun _ => none, h0⟩) : callv fns 41 vs h0 = some v :=
  callω_runv fns (af := af41) rfl rfl rfl rfl hl h
theorem runv22 {vs : List AV} {h0 : H} (hl : vs.length ≤ 55) {v : AV} (h : GoC fns (fun e => Run (xends [.tmp 2, .tmp 3] e) fun q => noHeap h0.n q = some v) [] k22_29 ⟨fun j => (vs[j]?).getD .undef, fun _ => none, h0⟩) : callv fns 22 vs h0 = some v :=
  callω_runv fns (af := af22) rfl rfl rfl rfl hl h
theorem runv20 {vs : List AV} {h0 : H} (hl : vs.length ≤ 37) {v : AV} (h : GoC fns (fun e => Run (xends [.tmp 2, .tmp 3] e) fun q => noHeap h0.n q = some v) [] k20_25 ⟨fun j => (vs[j]?).getD .undef, fun _ => none, h0⟩) : callv fns 20 vs h0 = some v :=
  callω_runv fns (af := af20) rfl rfl rfl rfl hl h
theorem runv21 {vs : List AV} {h0 : H} (hl : vs.length ≤ 5) {v : AV} (h : GoC fns (fun e => Run (xends [.tmp 2] e) fun q => noHeap h0.n q = some v) [] k21_1 ⟨fun j => (vs[j]?).getD .undef, fun _ => none, h0⟩) : callv fns 21 vs h0 = some v :=
  callω_runv fns (af := af21) rfl rfl rfl rfl hl h
theorem runv5 {vs : List AV} {h0 : H} (hl : vs.length ≤ 29) {v : AV} (h : GoC fns (fun e => Run (xends [.tmp 2, .tmp 3] e) fun q => noHeap h0.n q = some v) [] k5_16 ⟨fun j => (vs[j]?).getD .undef, fun _ => none, h0⟩) : callv fns 5 vs h0 = some v :=
  callω_runv fns (af := af5) rfl rfl rfl rfl hl h
theorem runv6 {vs : List AV} {h0 : H} (hl : vs.length ≤ 29) {v : AV} (h : GoC fns (fun e => Run (xends [.tmp 2, .tmp 3] e) fun q => noHeap h0.n q = some v) [] k6_16 ⟨fun j => (vs[j]?).getD .undef, fun _ => none, h0⟩) : callv fns 6 vs h0 = some v :=
  callω_runv fns (af := af6) rfl rfl rfl rfl hl h
theorem runv7 {vs : List AV} {h0 : H} (hl : vs.length ≤ 28) {v : AV} (h : GoC fns (fun e => Run (xends [.tmp 4] e) fun q => noHeap h0.n q = some v) [] k7_20 ⟨fun j => (vs[j]?).getD .undef, fun _ => none, h0⟩) : callv fns 7 vs h0 = some v :=
  callω_runv fns (af := af7) rfl rfl rfl rfl hl h
theorem runv63 {vs : List AV} {h0 : H} (hl : vs.length ≤ 10) {v : AV} (h : GoC fns (fun e => Run (xends [.tmp 6] e) fun q => noHeap h0.n q = some v) [] k63_1 ⟨fun j => (vs[j]?).getD .undef, fun _ => none, h0⟩) : callv fns 63 vs h0 = some v :=
  callω_runv fns (af := af63) rfl rfl rfl rfl hl h
theorem runv43 {vs : List AV} {h0 : H} (hl : vs.length ≤ 8) {v : AV} (h : GoC fns (fun e => Run (xends [.tmp 4] e) fun q => noHeap h0.n q = some v) [] k43_1 ⟨fun j => (vs[j]?).getD .undef, fun _ => none, h0⟩) : callv fns 43 vs h0 = some v :=
  callω_runv fns (af := af43) rfl rfl rfl rfl hl h
theorem runv25 {vs : List AV} {h0 : H} (hl : vs.length ≤ 76) {v : AV} (h : GoC fns (fun e => Run (xends [.tmp 2] e) fun q => noHeap h0.n q = some v) [] k25_42 ⟨fun j => (vs[j]?).getD .undef, fun _ => none, h0⟩) : callv fns 25 vs h0 = some v :=
  callω_runv fns (af := af25) rfl rfl rfl rfl hl h
theorem runv24 {vs : List AV} {h0 : H} (hl : vs.length ≤ 5) {v : AV} (h : GoC fns (fun e => Run (xends [.tmp 2] e) fun q => noHeap h0.n q = some v) [] k24_1 ⟨fun j => (vs[j]?).getD .undef, fun _ => none, h0⟩) : callv fns 24 vs h0 = some v :=
  callω_runv fns (af := af24) rfl rfl rfl rfl hl h
theorem runv23 {vs : List AV} {h0 : H} (hl : vs.length ≤ 42) {v : AV} (h : GoC fns (fun e => Run (xends [.tmp 2] e) fun q => noHeap h0.n q = some v) [] k23_47 ⟨fun j => (vs[j]?).getD .undef, fun _ => none, h0⟩) : callv fns 23 vs h0 = some v :=
  callω_runv fns (af := af23) rfl rfl rfl rfl hl h
theorem runv8 {vs : List AV} {h0 : H} (hl : vs.length ≤ 6) {v : AV} (h : GoC fns (fun e => Run (xends [.tmp 2] e) fun q => noHeap h0.n q = some v) [] k8_1 ⟨fun j => (vs[j]?).getD .undef, fun _ => none, h0⟩) : callv fns 8 vs h0 = some v :=
  callω_runv fns (af := af8) rfl rfl rfl rfl hl h
theorem runv9 {vs : List AV} {h0 : H} (hl : vs.length ≤ 6) {v : AV} (h : GoC fns (fun e => Run (xends [.tmp 2] e) fun q => noHeap h0.n q = some v) [] k9_1 ⟨fun j => (vs[j]?).getD .undef, fun _ => none, h0⟩) : callv fns 9 vs h0 = some v :=
  callω_runv fns (af := af9) rfl rfl rfl rfl hl h
theorem runv70 {vs : List AV} {h0 : H} (hl : vs.length ≤ 25) {v : AV} (h : GoC fns (fun e => Run (xends [.cell 4 true 2, .tmp 5, .tmp 6] e) fun q => noHeap h0.n q = some v) [] k70_6 ⟨fun j => (vs[j]?).getD .undef, fun _ => none, h0⟩) : callv fns 70 vs h0 = some v :=
  callω_runv fns (af := af70) rfl rfl rfl rfl hl h
theorem runv56 {vs : List AV} {h0 : H} (hl : vs.length ≤ 40) {v : AV} (h : GoC fns (fun e => Run (xends [.cell 2 true 2, .tmp 3] e) fun q => noHeap h0.n q = some v) [] k56_15 ⟨fun j => (vs[j]?).getD .undef, fun _ => none, h0⟩) : callv fns 56 vs h0 = some v :=
  callω_runv fns (af := af56) rfl rfl rfl rfl hl h
theorem runv52 {vs : List AV} {h0 : H} (hl : vs.length ≤ 11) {v : AV} (h : GoC fns (fun e => Run (xends [.cell 2 true 2] e) fun q => noHeap h0.n q = some v) [] k52_2 ⟨fun j => (vs[j]?).getD .undef, fun _ => none, h0⟩) : callv fns 52 vs h0 = some v :=
  callω_runv fns (af := af52) rfl rfl rfl rfl hl h
theorem runv45 {vs : List AV} {h0 : H} (hl : vs.length ≤ 57) {v : AV} (h : GoC fns (fun e => Run (xends [.tmp 2, .tmp 3] e) fun q => noHeap h0.n q = some v) [] k45_29 ⟨fun j => (vs[j]?).getD .undef, fun _ => none, h0⟩) : callv fns 45 vs h0 = some v :=
  callω_runv fns (af := af45) rfl rfl rfl rfl hl h
theorem runv28 {vs : List AV} {h0 : H} (hl : vs.length ≤ 8) {v : AV} (h : GoC fns (fun e => Run (xends [.tmp 2, .tmp 3] e) fun q => noHeap h0.n q = some v) [] k28_1 ⟨fun j => (vs[j]?).getD .undef, fun _ => none, h0⟩) : callv fns 28 vs h0 = some v :=
  callω_runv fns (af := af28) rfl rfl rfl rfl hl h
theorem runv44 {vs : List AV} {h0 : H} (hl : vs.length ≤ 8) {v : AV} (h : GoC fns (fun e => Run (xends [.cell 2 true 2] e) fun q => noHeap h0.n q = some v) [] k44_1 ⟨fun j => (vs[j]?).getD .undef, fun _ => none, h0⟩) : callv fns 44 vs h0 = some v :=
  callω_runv fns (af := af44) rfl rfl rfl rfl hl h
theorem runv26 {vs : List AV} {h0 : H} (hl : vs.length ≤ 31) {v : AV} (h : GoC fns (fun e => Run (xends [.tmp 2, .tmp 3] e) fun q => noHeap h0.n q = some v) [] k26_16 ⟨fun j => (vs[j]?).getD .undef, fun _ => none, h0⟩) : callv fns 26 vs h0 = some v :=
  callω_runv fns (af := af26) rfl rfl rfl rfl hl h
theorem runv35 {vs : List AV} {h0 : H} (hl : vs.length ≤ 10) {v : AV} (h : GoC fns (fun e => Run (xends [.cell 2 true 2] e) fun q => noHeap h0.n q = some v) [] k35_1 ⟨fun j => (vs[j]?).getD .undef, fun _ => none, h0⟩) : callv fns 35 vs h0 = some v :=
  callω_runv fns (af := af35) rfl rfl rfl rfl hl h
theorem runv27 {vs : List AV} {h0 : H} (hl : vs.length ≤ 19) {v : AV} (h : GoC fns (fun e => Run (xends [.tmp 2] e) fun q => noHeap h0.n q = some v) [] k27_15 ⟨fun j => (vs[j]?).getD .undef, fun _ => none, h0⟩) : callv fns 27 vs h0 = some v :=
  callω_runv fns (af := af27) rfl rfl rfl rfl hl h
theorem runv10 {vs : List AV} {h0 : H} (hl : vs.length ≤ 15) {v : AV} (h : GoC fns (fun e => Run (xends [.tmp 2, .tmp 3] e) fun q => noHeap h0.n q = some v) [] k10_2 ⟨fun j => (vs[j]?).getD .undef, fun _ => none, h0⟩) : callv fns 10 vs h0 = some v :=
  callω_runv fns (af := af10) rfl rfl rfl rfl hl h
theorem runv37 {vs : List AV} {h0 : H} (hl : vs.length ≤ 10) {v : AV} (h : GoC fns (fun e => Run (xends [.cell 2 true 2] e) fun q => noHeap h0.n q = some v) [] k37_1 ⟨fun j => (vs[j]?).getD .undef, fun _ => none, h0⟩) : callv fns 37 vs h0 = some v :=
  callω_runv fns (af := af37) rfl rfl rfl rfl hl h
theorem runv29 {vs : List AV} {h0 : H} (hl : vs.length ≤ 19) {v : AV} (h : GoC fns (fun e => Run (xends [.tmp 2] e) fun q => noHeap h0.n q = some v) [] k29_15 ⟨fun j => (vs[j]?).getD .undef, fun _ => none, h0⟩) : callv fns 29 vs h0 = some v :=
  callω_runv fns (af := af29) rfl rfl rfl rfl hl h
theorem runv11 {vs : List AV} {h0 : H} (hl : vs.length ≤ 15) {v : AV} (h : GoC fns (fun e => Run (xends [.tmp 2, .tmp 3] e) fun q => noHeap h0.n q = some v) [] k11_2 ⟨fun j => (vs[j]?).getD .undef, fun _ => none, h0⟩) : callv fns 11 vs h0 = some v :=
  callω_runv fns (af := af11) rfl rfl rfl rfl hl h
theorem runv19 {vs : List AV} {h0 : H} (hl : vs.length ≤ 19) {v : AV} (h : GoC fns (fun e => Run (xends [.tmp 4] e) fun q => noHeap h0.n q = some v) [] k19_1 ⟨fun j => (vs[j]?).getD .undef, fun _ => none, h0⟩) : callv fns 19 vs h0 = some v :=
  callω_runv fns (af := af19) rfl rfl rfl rfl hl h
theorem runv12 {vs : List AV} {h0 : H} (hl : vs.length ≤ 27) {v : AV} (h : GoC fns (fun e => Run (xends [.tmp 4] e) fun q => noHeap h0.n q = some v) [] k12_20 ⟨fun j => (vs[j]?).getD .undef, fun _ => none, h0⟩) : callv fns 12 vs h0 = some v :=
  callω_runv fns (af := af12) rfl rfl rfl rfl hl h
theorem runv46 {vs : List AV} {h0 : H} (hl : vs.length ≤ 51) {v : AV} (h : GoC fns (fun e => Run (xends [.tmp 4, .tmp 5] e) fun q => noHeap h0.n q = some v) [] k46_28 ⟨fun j => (vs[j]?).getD .undef, fun _ => none, h0⟩) : callv fns 46 vs h0 = some v :=
  callω_runv fns (af := af46) rfl rfl rfl rfl hl h
theorem runv31 {vs : List AV} {h0 : H} (hl : vs.length ≤ 11) {v : AV} (h : GoC fns (fun e => Run (xends [.tmp 4, .tmp 5] e) fun q => noHeap h0.n q = some v) [] k31_1 ⟨fun j => (vs[j]?).getD .undef, fun _ => none, h0⟩) : callv fns 31 vs h0 = some v :=
  callω_runv fns (af := af31) rfl rfl rfl rfl hl h
theorem runv30 {vs : List AV} {h0 : H} (hl : vs.length ≤ 16) {v : AV} (h : GoC fns (fun e => Run (xends [.tmp 4, .tmp 5] e) fun q => noHeap h0.n q = some v) [] k30_2 ⟨fun j => (vs[j]?).getD .undef, fun _ => none, h0⟩) : callv fns 30 vs h0 = some v :=
  callω_runv fns (af := af30) rfl rfl rfl rfl hl h
theorem runv13 {vs : List AV} {h0 : H} (hl : vs.length ≤ 19) {v : AV} (h : GoC fns (fun e => Run (xends [.tmp 4, .tmp 5] e) fun q => noHeap h0.n q = some v) [] k13_2 ⟨fun j => (vs[j]?).getD .undef, fun _ => none, h0⟩) : callv fns 13 vs h0 = some v :=
  callω_runv fns (af := af13) rfl rfl rfl rfl hl h
theorem runv14 {vs : List AV} {h0 : H} (hl : vs.length ≤ 19) {v : AV} (h : GoC fns (fun e => Run (xends [.tmp 4, .tmp 5] e) fun q => noHeap h0.n q = some v) [] k14_2 ⟨fun j => (vs[j]?).getD .undef, fun _ => none, h0⟩) : callv fns 14 vs h0 = some v :=
  callω_runv fns (af := af14) rfl rfl rfl rfl hl h
theorem runv47 {vs : List AV} {h0 : H} (hl : vs.length ≤ 31) {v : AV} (h : GoC fns (fun e => Run (xends [.tmp 2, .tmp 3] e) fun q => noHeap h0.n q = some v) [] k47_5 ⟨fun j => (vs[j]?).getD .undef, fun _ => none, h0⟩) : callv fns 47 vs h0 = some v :=
  callω_runv fns (af := af47) rfl rfl rfl rfl hl h
theorem runv64 {vs : List AV} {h0 : H} (hl : vs.length ≤ 23) {v : AV} (h : GoC fns (fun e => Run (xends [.tmp 2, .tmp 3, .tmp 4] e) fun q => noHeap h0.n q = some v) [] k64_15 ⟨fun j => (vs[j]?).getD .undef, fun _ => none, h0⟩) : callv fns 64 vs h0 = some v :=
  callω_runv fns (af := af64) rfl rfl rfl rfl hl h
theorem runv65 {vs : List AV} {h0 : H} (hl : vs.length ≤ 140) {v : AV} (h : GoC fns (fun e => Run (xends [.tmp 4, .tmp 5] e) fun q => noHeap h0.n q = some v) [] k65_64 ⟨fun j => (vs[j]?).getD .undef, fun _ => none, h0⟩) : callv fns 65 vs h0 = some v :=
  callω_runv fns (af := af65) rfl rfl rfl rfl hl h
theorem runv50 {vs : List AV} {h0 : H} (hl : vs.length ≤ 69) {v : AV} (h : GoC fns (fun e => Run (xends [.tmp 4, .tmp 5] e) fun q => noHeap h0.n q = some v) [] k50_24 ⟨fun j => (vs[j]?).getD .undef, fun _ => none, h0⟩) : callv fns 50 vs h0 = some v :=
  callω_runv fns (af := af50) rfl rfl rfl rfl hl h
theorem runv48 {vs : List AV} {h0 : H} (hl : vs.length ≤ 38) {v : AV} (h : GoC fns (fun e => Run (xends [.tmp 2, .tmp 3] e) fun q => noHeap h0.n q = some v) [] k48_11 ⟨fun j => (vs[j]?).getD .undef, fun _ => none, h0⟩) : callv fns 48 vs h0 = some v :=
  callω_runv fns (af := af48) rfl rfl rfl rfl hl h
theorem runv49 {vs : List AV} {h0 : H} (hl : vs.length ≤ 25) {v : AV} (h : GoC fns (fun e => Run (xends [.cell 2 true 4] e) fun q => noHeap h0.n q = some v) [] k49_2 ⟨fun j => (vs[j]?).getD .undef, fun _ => none, h0⟩) : callv fns 49 vs h0 = some v :=
  callω_runv fns (af := af49) rfl rfl rfl rfl hl h
theorem runv32 {vs : List AV} {h0 : H} (hl : vs.length ≤ 52) {v : AV} (h : GoC fns (fun e => Run (xends [.tmp 2, .tmp 3, .tmp 4] e) fun q => noHeap h0.n q = some v) [] k32_23 ⟨fun j => (vs[j]?).getD .undef, fun _ => none, h0⟩) : callv fns 32 vs h0 = some v :=
  callω_runv fns (af := af32) rfl rfl rfl rfl hl h
theorem runv33 {vs : List AV} {h0 : H} (hl : vs.length ≤ 16) {v : AV} (h : GoC fns (fun e => Run (xends [.tmp 2] e) fun q => noHeap h0.n q = some v) [] k33_2 ⟨fun j => (vs[j]?).getD .undef, fun _ => none, h0⟩) : callv fns 33 vs h0 = some v :=
  callω_runv fns (af := af33) rfl rfl rfl rfl hl h
theorem runv15 {vs : List AV} {h0 : H} (hl : vs.length ≤ 60) {v : AV} (h : GoC fns (fun e => Run (xends [.tmp 4] e) fun q => noHeap h0.n q = some v) [] k15_25 ⟨fun j => (vs[j]?).getD .undef, fun _ => none, h0⟩) : callv fns 15 vs h0 = some v :=
  callω_runv fns (af := af15) rfl rfl rfl rfl hl h
theorem runv66 {vs : List AV} {h0 : H} (hl : vs.length ≤ 19) {v : AV} (h : GoC fns (fun e => Run (xends [.tmp 2, .tmp 3] e) fun q => noHeap h0.n q = some v) [] k66_10 ⟨fun j => (vs[j]?).getD .undef, fun _ => none, h0⟩) : callv fns 66 vs h0 = some v :=
  callω_runv fns (af := af66) rfl rfl rfl rfl hl h
theorem runv51 {vs : List AV} {h0 : H} (hl : vs.length ≤ 11) {v : AV} (h : GoC fns (fun e => Run (xends [.tmp 2] e) fun q => noHeap h0.n q = some v) [] k51_2 ⟨fun j => (vs[j]?).getD .undef, fun _ => none, h0⟩) : callv fns 51 vs h0 = some v :=
  callω_runv fns (af := af51) rfl rfl rfl rfl hl h
theorem runv73 {vs : List AV} {h0 : H} (hl : vs.length ≤ 32) {v : AV} (h : GoC fns (fun e => Run (xends [.tmp 2, .tmp 3, .tmp 4] e) fun q => noHeap h0.n q = some v) [] k73_14 ⟨fun j => (vs[j]?).getD .undef, fun _ => none, h0⟩) : callv fns 73 vs h0 = some v :=
  callω_runv fns (af := af73) rfl rfl rfl rfl hl h
theorem runv67 {vs : List AV} {h0 : H} (hl : vs.length ≤ 10) {v : AV} (h : GoC fns (fun e => Run (xends [.tmp 2, .tmp 3, .tmp 4] e) fun q => noHeap h0.n q = some v) [] k67_1 ⟨fun j => (vs[j]?).getD .undef, fun _ => none, h0⟩) : callv fns 67 vs h0 = some v :=
  callω_runv fns (af := af67) rfl rfl rfl rfl hl h
theorem runv53 {vs : List AV} {h0 : H} (hl : vs.length ≤ 29) {v : AV} (h : GoC fns (fun e => Run (xends [.tmp 2] e) fun q => noHeap h0.n q = some v) [] k53_10 ⟨fun j => (vs[j]?).getD .undef, fun _ => none, h0⟩) : callv fns 53 vs h0 = some v :=
  callω_runv fns (af := af53) rfl rfl rfl rfl hl h
theorem runv68 {vs : List AV} {h0 : H} (hl : vs.length ≤ 10) {v : AV} (h : GoC fns (fun e => Run (xends [.tmp 2, .tmp 3, .tmp 4] e) fun q => noHeap h0.n q = some v) [] k68_1 ⟨fun j => (vs[j]?).getD .undef, fun _ => none, h0⟩) : callv fns 68 vs h0 = some v :=
  callω_runv fns (af := af68) rfl rfl rfl rfl hl h
theorem runv54 {vs : List AV} {h0 : H} (hl : vs.length ≤ 29) {v : AV} (h : GoC fns (fun e => Run (xends [.tmp 2] e) fun q => noHeap h0.n q = some v) [] k54_10 ⟨fun j => (vs[j]?).getD .undef, fun _ => none, h0⟩) : callv fns 54 vs h0 = some v :=
  callω_runv fns (af := af54) rfl rfl rfl rfl hl h
theorem runv69 {vs : List AV} {h0 : H} (hl : vs.length ≤ 14) {v : AV} (h : GoC fns (fun e => Run (xends [.tmp 2, .tmp 3] e) fun q => noHeap h0.n q = some v) [] k69_2 ⟨fun j => (vs[j]?).getD .undef, fun _ => none, h0⟩) : callv fns 69 vs h0 = some v :=
  callω_runv fns (af := af69) rfl rfl rfl rfl hl h
theorem runv55 {vs : List AV} {h0 : H} (hl : vs.length ≤ 11) {v : AV} (h : GoC fns (fun e => Run (xends [.tmp 2] e) fun q => noHeap h0.n q = some v) [] k55_2 ⟨fun j => (vs[j]?).getD .undef, fun _ => none, h0⟩) : callv fns 55 vs h0 = some v :=
  callω_runv fns (af := af55) rfl rfl rfl rfl hl h
theorem runv36 {vs : List AV} {h0 : H} (hl : vs.length ≤ 113) {v : AV} (h : GoC fns (fun e => Run (xends [.cell 4 true 2, .tmp 5] e) fun q => noHeap h0.n q = some v) [] k36_53 ⟨fun j => (vs[j]?).getD .undef, fun _ => none, h0⟩) : callv fns 36 vs h0 = some v :=
  callω_runv fns (af := af36) rfl rfl rfl rfl hl h
theorem runv34 {vs : List AV} {h0 : H} (hl : vs.length ≤ 17) {v : AV} (h : GoC fns (fun e => Run (xends [.cell 4 true 2, .tmp 5] e) fun q => noHeap h0.n q = some v) [] k34_2 ⟨fun j => (vs[j]?).getD .undef, fun _ => none, h0⟩) : callv fns 34 vs h0 = some v :=
  callω_runv fns (af := af34) rfl rfl rfl rfl hl h
theorem runv17 {vs : List AV} {h0 : H} (hl : vs.length ≤ 18) {v : AV} (h : GoC fns (fun e => Run (xends [.cell 4 true 2, .tmp 5] e) fun q => noHeap h0.n q = some v) [] k17_2 ⟨fun j => (vs[j]?).getD .undef, fun _ => none, h0⟩) : callv fns 17 vs h0 = some v :=
  callω_runv fns (af := af17) rfl rfl rfl rfl hl h
theorem runv18 {vs : List AV} {h0 : H} (hl : vs.length ≤ 18) {v : AV} (h : GoC fns (fun e => Run (xends [.cell 4 true 2, .tmp 5] e) fun q => noHeap h0.n q = some v) [] k18_2 ⟨fun j => (vs[j]?).getD .undef, fun _ => none, h0⟩) : callv fns 18 vs h0 = some v :=
  callω_runv fns (af := af18) rfl rfl rfl rfl hl h
theorem runv16 {vs : List AV} {h0 : H} (hl : vs.length ≤ 36) {v : AV} (h : GoC fns (fun e => Run (xends [.tmp 0] e) fun q => noHeap h0.n q = some v) [] k16_4 ⟨fun j => (vs[j]?).getD .undef, fun _ => none, h0⟩) : callv fns 16 vs h0 = some v :=
  callω_runv fns (af := af16) rfl rfl rfl rfl hl h
theorem runv3 {vs : List AV} {h0 : H} (hl : vs.length ≤ 155) {v : AV} (h : GoC fns (fun e => Run (xends [.tmp 6] e) fun q => noHeap h0.n q = some v) [] k3_29 ⟨fun j => (vs[j]?).getD .undef, fun _ => none, h0⟩) : callv fns 3 vs h0 = some v :=
  callω_runv fns (af := af3) rfl rfl rfl rfl hl h
def OkF (f : FuncId) (af : AFunc) : Prop := ∃ fn, Tryz.prog.funcs[f]? = some fn ∧ (fn.name == "runtime.NumGoroutine") = false ∧ (∃ hs, pFunc Tryz.prog sg hs fn = some ⟨af.n, af.code, af.res, fun _ _ => none⟩) ∧ XOk Tryz.prog f af.x
def OkL : List (FuncId × AFunc) → Prop
  | [] => True
  | (f, af) :: r => OkF f af ∧ OkL r
theorem okL_lookup : ∀ {l : List (FuncId × AFunc)} {f : FuncId} {af : AFunc}, OkL l → l.lookup f = some af → OkF f af
  | [], _, _, _, h => by cases h
  | (g, ag) :: r, f, af, hl, h => by
    rw [List.lookup_cons] at h
    split at h
    · rename_i hb; injection h with h; subst h; have := beq_iff_eq.1 hb; subst this; exact hl.1
    · exact okL_lookup hl.2 h
theorem fnsOk : FnsOk Tryz.prog sg fns := fun f af h => okL_lookup (l := fnsL) ⟨⟨Tryz.f4, Tryz.func4, by kernel_rfl, ok4, xok_none _ _⟩, ⟨Tryz.f57, Tryz.func57, by kernel_rfl, ok57, xok_none _ _⟩, ⟨Tryz.f38, Tryz.func38, by kernel_rfl, ok38, xok_none _ _⟩, ⟨Tryz.f39, Tryz.func39, by kernel_rfl, ok39, xok_none _ _⟩, ⟨Tryz.f59, Tryz.func59, by kernel_rfl, ok59, xok_none _ _⟩, ⟨Tryz.f58, Tryz.func58, by kernel_rfl, ok58, xok_none _ _⟩, ⟨Tryz.f40, Tryz.func40, by kernel_rfl, ok40, xok_none _ _⟩, ⟨Tryz.f72, Tryz.func72, by kernel_rfl, ok72, xok_none _ _⟩, ⟨Tryz.f60, Tryz.func60, by kernel_rfl, ok60, xok_none _ _⟩, ⟨Tryz.f41, Tryz.func41, by kernel_rfl, ok41, xok_none _ _⟩, ⟨Tryz.f22, Tryz.func22, by kernel_rfl, ok22, xok_none _ _⟩, ⟨Tryz.f20, Tryz.func20, by kernel_rfl, ok20, xok_none _ _⟩, ⟨Tryz.f21, Tryz.func21, by kernel_rfl, ok21, xok_none _ _⟩, ⟨Tryz.f5, Tryz.func5, by kernel_rfl, ok5, xok_none _ _⟩, ⟨Tryz.f6, Tryz.func6, by kernel_rfl, ok6, xok_none _ _⟩, ⟨Tryz.f7, Tryz.func7, by kernel_rfl, ok7, xok_none _ _⟩, ⟨Tryz.f63, Tryz.func63, by kernel_rfl, ok63, xok_none _ _⟩, ⟨Tryz.f43, Tryz.func43, by kernel_rfl, ok43, xok_none _ _⟩, ⟨Tryz.f25, Tryz.func25, by kernel_rfl, ok25, xok_none _ _⟩, ⟨Tryz.f24, Tryz.func24, by kernel_rfl, ok24, xok_none _ _⟩, ⟨Tryz.f42, Tryz.func42, by kernel_rfl, ok42, xok_is⟩, ⟨Tryz.f23, Tryz.func23, by kernel_rfl, ok23, xok_none _ _⟩, ⟨Tryz.f8, Tryz.func8, by kernel_rfl, ok8, xok_none _ _⟩, ⟨Tryz.f9, Tryz.func9, by kernel_rfl, ok9, xok_none _ _⟩, ⟨Tryz.f70, Tryz.func70, by kernel_rfl, ok70, xok_none _ _⟩, ⟨Tryz.f56, Tryz.func56, by kernel_rfl, ok56, xok_none _ _⟩, ⟨Tryz.f52, Tryz.func52, by kernel_rfl, ok52, xok_none _ _⟩, ⟨Tryz.f45, Tryz.func45, by kernel_rfl, ok45, xok_none _ _⟩, ⟨Tryz.f28, Tryz.func28, by kernel_rfl, ok28, xok_none _ _⟩, ⟨Tryz.f44, Tryz.func44, by kernel_rfl, ok44, xok_none _ _⟩, ⟨Tryz.f26, Tryz.func26, by kernel_rfl, ok26, xok_none _ _⟩, ⟨Tryz.f35, Tryz.func35, by kernel_rfl, ok35, xok_none _ _⟩, ⟨Tryz.f27, Tryz.func27, by kernel_rfl, ok27, xok_none _ _⟩, ⟨Tryz.f10, Tryz.func10, by kernel_rfl, ok10, xok_none _ _⟩, ⟨Tryz.f37, Tryz.func37, by kernel_rfl, ok37, xok_none _ _⟩, ⟨Tryz.f29, Tryz.func29, by kernel_rfl, ok29, xok_none _ _⟩, ⟨Tryz.f11, Tryz.func11, by kernel_rfl, ok11, xok_none _ _⟩, ⟨Tryz.f19, Tryz.func19, by kernel_rfl, ok19, xok_none _ _⟩, ⟨Tryz.f12, Tryz.func12, by kernel_rfl, ok12, xok_none _ _⟩, ⟨Tryz.f46, Tryz.func46, by kernel_rfl, ok46, xok_none _ _⟩, ⟨Tryz.f31, Tryz.func31, by kernel_rfl, ok31, xok_none _ _⟩, ⟨Tryz.f30, Tryz.func30, by kernel_rfl, ok30, xok_none _ _⟩, ⟨Tryz.f13, Tryz.func13, by kernel_rfl, ok13, xok_none _ _⟩, ⟨Tryz.f14, Tryz.func14, by kernel_rfl, ok14, xok_none _ _⟩, ⟨Tryz.f47, Tryz.func47, by kernel_rfl, ok47, xok_none _ _⟩, ⟨Tryz.f64, Tryz.func64, by kernel_rfl, ok64, xok_none _ _⟩, ⟨Tryz.f65, Tryz.func65, by kernel_rfl, ok65, xok_none _ _⟩, ⟨Tryz.f50, Tryz.func50, by kernel_rfl, ok50, xok_none _ _⟩, ⟨Tryz.f48, Tryz.func48, by kernel_rfl, ok48, xok_none _ _⟩, ⟨Tryz.f49, Tryz.func49, by kernel_rfl, ok49, xok_none _ _⟩, ⟨Tryz.f32, Tryz.func32, by kernel_rfl, ok32, xok_none _ _⟩, ⟨Tryz.f33, Tryz.func33, by kernel_rfl, ok33, xok_none _ _⟩, ⟨Tryz.f15, Tryz.func15, by kernel_rfl, ok15, xok_none _ _⟩, ⟨Tryz.f66, Tryz.func66, by kernel_rfl, ok66, xok_none _ _⟩, ⟨Tryz.f51, Tryz.func51, by kernel_rfl, ok51, xok_none _ _⟩, ⟨Tryz.f73, Tryz.func73, by kernel_rfl, ok73, xok_none _ _⟩, ⟨Tryz.f67, Tryz.func67, by kernel_rfl, ok67, xok_none _ _⟩, ⟨Tryz.f53, Tryz.func53, by kernel_rfl, ok53, xok_none _ _⟩, ⟨Tryz.f68, Tryz.func68, by kernel_rfl, ok68, xok_none _ _⟩, ⟨Tryz.f54, Tryz.func54, by kernel_rfl, ok54, xok_none _ _⟩, ⟨Tryz.f69, Tryz.func69, by kernel_rfl, ok69, xok_none _ _⟩, ⟨Tryz.f55, Tryz.func55, by kernel_rfl, ok55, xok_none _ _⟩, ⟨Tryz.f36, Tryz.func36, by kernel_rfl, ok36, xok_none _ _⟩, ⟨Tryz.f34, Tryz.func34, by kernel_rfl, ok34, xok_none _ _⟩, ⟨Tryz.f17, Tryz.func17, by kernel_rfl, ok17, xok_none _ _⟩, ⟨Tryz.f18, Tryz.func18, by kernel_rfl, ok18, xok_none _ _⟩, ⟨Tryz.f16, Tryz.func16, by kernel_rfl, ok16, xok_none _ _⟩, ⟨Tryz.f3, Tryz.func3, by kernel_rfl, ok3, xok_none _ _⟩, trivial⟩ h
end Go.Proofs.YtdnfnobgeddbfaaGreatDoor.Abs
