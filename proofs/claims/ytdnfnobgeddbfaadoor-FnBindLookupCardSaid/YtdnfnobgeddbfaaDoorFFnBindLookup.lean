/- The functions that the law reaches, made ready for the interpreter (printed by a program of this session; the kernel compares each with the given program). -/
import Derived.Test.YtdnfnobgeddbfaaDoorFFnBindLookupP2
namespace Go.Proofs.YtdnfnobgeddbfaaDoor.Abs
set_option linter.all false
set_option maxRecDepth 100000
def fnsL : List (FuncId × AFunc) := [(7, af7), (11, af11), (27, af27), (64, af64), (65, af65), (13, af13), (66, af66), (48, af48), (28, af28), (29, af29), (8, af8), (34, af34), (26, af26), (49, af49), (51, af51), (50, af50), (30, af30), (20, af20), (35, af35), (12, af12), (85, af85), (71, af71), (70, af70), (82, af82), (84, af84), (72, af72), (81, af81), (73, af73), (69, af69), (83, af83), (62, af62), (74, af74), (90, af90), (86, af86), (75, af75), (87, af87), (76, af76), (61, af61), (77, af77), (55, af55), (56, af56), (36, af36), (40, af40), (37, af37), (52, af52), (31, af31), (14, af14), (38, af38), (15, af15), (9, af9), (16, af16), (4, af4), (54, af54), (63, af63), (57, af57), (39, af39), (17, af17), (78, af78), (58, af58), (41, af41), (42, af42), (18, af18), (88, af88), (79, af79), (59, af59), (43, af43), (19, af19), (80, af80), (60, af60), (44, af44), (21, af21), (5, af5), (22, af22), (45, af45), (23, af23), (46, af46), (24, af24), (47, af47), (25, af25), (6, af6), (32, af32), (53, af53), (33, af33), (10, af10), (3, af3)]
def fns : FuncId → Option AFunc := fun f => fnsL.lookup f
theorem run7 {vs : List AV} {h0 : H} (hl : vs.length ≤ 19) {r : AV × H} (h : GoC fns (fun e => xends [.tmp 2] e = some r) [] k7_17 ⟨fun j => (vs[j]?).getD .undef, fun _ => none, h0⟩) : callω fns 7 vs h0 = some r :=
  callω_run fns (af := af7) rfl rfl rfl rfl hl h
theorem runs7 {vs : List AV} {h0 : H} (hl : vs.length ≤ 19) {p : AV × H → Prop} (h : GoC fns (fun e => Run (xends [.tmp 2] e) p) [] k7_17 ⟨fun j => (vs[j]?).getD .undef, fun _ => none, h0⟩) : CW fns 7 vs h0 p :=
  callω_runs fns (af := af7) rfl rfl rfl rfl hl h
theorem run11 {vs : List AV} {h0 : H} (hl : vs.length ≤ 18) {r : AV × H} (h : GoC fns (fun e => xends [.tmp 2] e = some r) [] k11_20 ⟨fun j => (vs[j]?).getD .undef, fun _ => none, h0⟩) : callω fns 11 vs h0 = some r :=
  callω_run fns (af := af11) rfl rfl rfl rfl hl h
theorem runs11 {vs : List AV} {h0 : H} (hl : vs.length ≤ 18) {p : AV × H → Prop} (h : GoC fns (fun e => Run (xends [.tmp 2] e) p) [] k11_20 ⟨fun j => (vs[j]?).getD .undef, fun _ => none, h0⟩) : CW fns 11 vs h0 p :=
  callω_runs fns (af := af11) rfl rfl rfl rfl hl h
theorem run27 {vs : List AV} {h0 : H} (hl : vs.length ≤ 32) {r : AV × H} (h : GoC fns (fun e => xends [.tmp 4] e = some r) [] k27_14 ⟨fun j => (vs[j]?).getD .undef, fun _ => none, h0⟩) : callω fns 27 vs h0 = some r :=
  callω_run fns (af := af27) rfl rfl rfl rfl hl h
theorem runs27 {vs : List AV} {h0 : H} (hl : vs.length ≤ 32) {p : AV × H → Prop} (h : GoC fns (fun e => Run (xends [.tmp 4] e) p) [] k27_14 ⟨fun j => (vs[j]?).getD .undef, fun _ => none, h0⟩) : CW fns 27 vs h0 p :=
  callω_runs fns (af := af27) rfl rfl rfl rfl hl h
theorem run64 {vs : List AV} {h0 : H} (hl : vs.length ≤ 17) {r : AV × H} (h : GoC fns (fun e => xends [.tmp 2] e = some r) [] k64_1 ⟨fun j => (vs[j]?).getD .undef, fun _ => none, h0⟩) : callω fns 64 vs h0 = some r :=
  callω_run fns (af := af64) rfl rfl rfl rfl hl h
theorem runs64 {vs : List AV} {h0 : H} (hl : vs.length ≤ 17) {p : AV × H → Prop} (h : GoC fns (fun e => Run (xends [.tmp 2] e) p) [] k64_1 ⟨fun j => (vs[j]?).getD .undef, fun _ => none, h0⟩) : CW fns 64 vs h0 p :=
  callω_runs fns (af := af64) rfl rfl rfl rfl hl h
theorem run65 {vs : List AV} {h0 : H} (hl : vs.length ≤ 48) {r : AV × H} (h : GoC fns (fun e => xends [.cell 2 true 8] e = some r) [] k65_52 ⟨fun j => (vs[j]?).getD .undef, fun _ => none, h0⟩) : callω fns 65 vs h0 = some r :=
  callω_run fns (af := af65) rfl rfl rfl rfl hl h
theorem runs65 {vs : List AV} {h0 : H} (hl : vs.length ≤ 48) {p : AV × H → Prop} (h : GoC fns (fun e => Run (xends [.cell 2 true 8] e) p) [] k65_52 ⟨fun j => (vs[j]?).getD .undef, fun _ => none, h0⟩) : CW fns 65 vs h0 p :=
  callω_runs fns (af := af65) rfl rfl rfl rfl hl h
theorem run13 {vs : List AV} {h0 : H} (hl : vs.length ≤ 14) {r : AV × H} (h : GoC fns (fun e => xends [.tmp 2] e = some r) [] k13_15 ⟨fun j => (vs[j]?).getD .undef, fun _ => none, h0⟩) : callω fns 13 vs h0 = some r :=
  callω_run fns (af := af13) rfl rfl rfl rfl hl h
theorem runs13 {vs : List AV} {h0 : H} (hl : vs.length ≤ 14) {p : AV × H → Prop} (h : GoC fns (fun e => Run (xends [.tmp 2] e) p) [] k13_15 ⟨fun j => (vs[j]?).getD .undef, fun _ => none, h0⟩) : CW fns 13 vs h0 p :=
  callω_runs fns (af := af13) rfl rfl rfl rfl hl h
theorem run66 {vs : List AV} {h0 : H} (hl : vs.length ≤ 20) {r : AV × H} (h : GoC fns (fun e => xends [.tmp 2] e = some r) [] k66_5 ⟨fun j => (vs[j]?).getD .undef, fun _ => none, h0⟩) : callω fns 66 vs h0 = some r :=
  callω_run fns (af := af66) rfl rfl rfl rfl hl h
theorem runs66 {vs : List AV} {h0 : H} (hl : vs.length ≤ 20) {p : AV × H → Prop} (h : GoC fns (fun e => Run (xends [.tmp 2] e) p) [] k66_5 ⟨fun j => (vs[j]?).getD .undef, fun _ => none, h0⟩) : CW fns 66 vs h0 p :=
  callω_runs fns (af := af66) rfl rfl rfl rfl hl h
theorem run48 {vs : List AV} {h0 : H} (hl : vs.length ≤ 138) {r : AV × H} (h : GoC fns (fun e => xends [.tmp 4] e = some r) [] k48_46 ⟨fun j => (vs[j]?).getD .undef, fun _ => none, h0⟩) : callω fns 48 vs h0 = some r :=
  callω_run fns (af := af48) rfl rfl rfl rfl hl h
theorem runs48 {vs : List AV} {h0 : H} (hl : vs.length ≤ 138) {p : AV × H → Prop} (h : GoC fns (fun e => Run (xends [.tmp 4] e) p) [] k48_46 ⟨fun j => (vs[j]?).getD .undef, fun _ => none, h0⟩) : CW fns 48 vs h0 p :=
  callω_runs fns (af := af48) rfl rfl rfl rfl hl h
theorem run28 {vs : List AV} {h0 : H} (hl : vs.length ≤ 5) {r : AV × H} (h : GoC fns (fun e => xends [.tmp 2] e = some r) [] k28_1 ⟨fun j => (vs[j]?).getD .undef, fun _ => none, h0⟩) : callω fns 28 vs h0 = some r :=
  callω_run fns (af := af28) rfl rfl rfl rfl hl h
theorem runs28 {vs : List AV} {h0 : H} (hl : vs.length ≤ 5) {p : AV × H → Prop} (h : GoC fns (fun e => Run (xends [.tmp 2] e) p) [] k28_1 ⟨fun j => (vs[j]?).getD .undef, fun _ => none, h0⟩) : CW fns 28 vs h0 p :=
  callω_runs fns (af := af28) rfl rfl rfl rfl hl h
theorem run29 {vs : List AV} {h0 : H} (hl : vs.length ≤ 41) {r : AV × H} (h : GoC fns (fun e => xends [.tmp 2] e = some r) [] k29_14 ⟨fun j => (vs[j]?).getD .undef, fun _ => none, h0⟩) : callω fns 29 vs h0 = some r :=
  callω_run fns (af := af29) rfl rfl rfl rfl hl h
theorem runs29 {vs : List AV} {h0 : H} (hl : vs.length ≤ 41) {p : AV × H → Prop} (h : GoC fns (fun e => Run (xends [.tmp 2] e) p) [] k29_14 ⟨fun j => (vs[j]?).getD .undef, fun _ => none, h0⟩) : CW fns 29 vs h0 p :=
  callω_runs fns (af := af29) rfl rfl rfl rfl hl h
theorem run8 {vs : List AV} {h0 : H} (hl : vs.length ≤ 15) {r : AV × H} (h : GoC fns (fun e => xends [.tmp 2] e = some r) [] k8_1 ⟨fun j => (vs[j]?).getD .undef, fun _ => none, h0⟩) : callω fns 8 vs h0 = some r :=
  callω_run fns (af := af8) rfl rfl rfl rfl hl h
theorem runs8 {vs : List AV} {h0 : H} (hl : vs.length ≤ 15) {p : AV × H → Prop} (h : GoC fns (fun e => Run (xends [.tmp 2] e) p) [] k8_1 ⟨fun j => (vs[j]?).getD .undef, fun _ => none, h0⟩) : CW fns 8 vs h0 p :=
  callω_runs fns (af := af8) rfl rfl rfl rfl hl h
theorem run34 {vs : List AV} {h0 : H} (hl : vs.length ≤ 26) {r : AV × H} (h : GoC fns (fun e => xends [.tmp 2] e = some r) [] k34_19 ⟨fun j => (vs[j]?).getD .undef, fun _ => none, h0⟩) : callω fns 34 vs h0 = some r :=
  callω_run fns (af := af34) rfl rfl rfl rfl hl h
theorem runs34 {vs : List AV} {h0 : H} (hl : vs.length ≤ 26) {p : AV × H → Prop} (h : GoC fns (fun e => Run (xends [.tmp 2] e) p) [] k34_19 ⟨fun j => (vs[j]?).getD .undef, fun _ => none, h0⟩) : CW fns 34 vs h0 p :=
  callω_runs fns (af := af34) rfl rfl rfl rfl hl h
theorem run26 {vs : List AV} {h0 : H} (hl : vs.length ≤ 14) {r : AV × H} (h : GoC fns (fun e => xends [.tmp 4] e = some r) [] k26_2 ⟨fun j => (vs[j]?).getD .undef, fun _ => none, h0⟩) : callω fns 26 vs h0 = some r :=
  callω_run fns (af := af26) rfl rfl rfl rfl hl h
theorem runs26 {vs : List AV} {h0 : H} (hl : vs.length ≤ 14) {p : AV × H → Prop} (h : GoC fns (fun e => Run (xends [.tmp 4] e) p) [] k26_2 ⟨fun j => (vs[j]?).getD .undef, fun _ => none, h0⟩) : CW fns 26 vs h0 p :=
  callω_runs fns (af := af26) rfl rfl rfl rfl hl h
theorem run49 {vs : List AV} {h0 : H} (hl : vs.length ≤ 18) {r : AV × H} (h : GoC fns (fun e => xends [.tmp 4] e = some r) [] k49_13 ⟨fun j => (vs[j]?).getD .undef, fun _ => none, h0⟩) : callω fns 49 vs h0 = some r :=
  callω_run fns (af := af49) rfl rfl rfl rfl hl h
theorem runs49 {vs : List AV} {h0 : H} (hl : vs.length ≤ 18) {p : AV × H → Prop} (h : GoC fns (fun e => Run (xends [.tmp 4] e) p) [] k49_13 ⟨fun j => (vs[j]?).getD .undef, fun _ => none, h0⟩) : CW fns 49 vs h0 p :=
  callω_runs fns (af := af49) rfl rfl rfl rfl hl h
theorem run51 {vs : List AV} {h0 : H} (hl : vs.length ≤ 19) {r : AV × H} (h : GoC fns (fun e => xends [.tmp 4] e = some r) [] k51_1 ⟨fun j => (vs[j]?).getD .undef, fun _ => none, h0⟩) : callω fns 51 vs h0 = some r :=
  callω_run fns (af := af51) rfl rfl rfl rfl hl h
theorem runs51 {vs : List AV} {h0 : H} (hl : vs.length ≤ 19) {p : AV × H → Prop} (h : GoC fns (fun e => Run (xends [.tmp 4] e) p) [] k51_1 ⟨fun j => (vs[j]?).getD .undef, fun _ => none, h0⟩) : CW fns 51 vs h0 p :=
  callω_runs fns (af := af51) rfl rfl rfl rfl hl h
theorem run50 {vs : List AV} {h0 : H} (hl : vs.length ≤ 16) {r : AV × H} (h : GoC fns (fun e => xends [.tmp 4] e = some r) [] k50_3 ⟨fun j => (vs[j]?).getD .undef, fun _ => none, h0⟩) : callω fns 50 vs h0 = some r :=
  callω_run fns (af := af50) rfl rfl rfl rfl hl h
theorem runs50 {vs : List AV} {h0 : H} (hl : vs.length ≤ 16) {p : AV × H → Prop} (h : GoC fns (fun e => Run (xends [.tmp 4] e) p) [] k50_3 ⟨fun j => (vs[j]?).getD .undef, fun _ => none, h0⟩) : CW fns 50 vs h0 p :=
  callω_runs fns (af := af50) rfl rfl rfl rfl hl h
theorem run30 {vs : List AV} {h0 : H} (hl : vs.length ≤ 148) {r : AV × H} (h : GoC fns (fun e => xends [.tmp 2] e = some r) [] k30_73 ⟨fun j => (vs[j]?).getD .undef, fun _ => none, h0⟩) : callω fns 30 vs h0 = some r :=
  callω_run fns (af := af30) rfl rfl rfl rfl hl h
theorem runs30 {vs : List AV} {h0 : H} (hl : vs.length ≤ 148) {p : AV × H → Prop} (h : GoC fns (fun e => Run (xends [.tmp 2] e) p) [] k30_73 ⟨fun j => (vs[j]?).getD .undef, fun _ => none, h0⟩) : CW fns 30 vs h0 p :=
  callω_runs fns (af := af30) rfl rfl rfl rfl hl h
theorem run20 {vs : List AV} {h0 : H} (hl : vs.length ≤ 13) {r : AV × H} (h : GoC fns (fun e => xends [.tmp 2] e = some r) [] k20_1 ⟨fun j => (vs[j]?).getD .undef, fun _ => none, h0⟩) : callω fns 20 vs h0 = some r :=
  callω_run fns (af := af20) rfl rfl rfl rfl hl h
theorem runs20 {vs : List AV} {h0 : H} (hl : vs.length ≤ 13) {p : AV × H → Prop} (h : GoC fns (fun e => Run (xends [.tmp 2] e) p) [] k20_1 ⟨fun j => (vs[j]?).getD .undef, fun _ => none, h0⟩) : CW fns 20 vs h0 p :=
  callω_runs fns (af := af20) rfl rfl rfl rfl hl h
theorem run35 {vs : List AV} {h0 : H} (hl : vs.length ≤ 29) {r : AV × H} (h : GoC fns (fun e => xends [.tmp 2] e = some r) [] k35_16 ⟨fun j => (vs[j]?).getD .undef, fun _ => none, h0⟩) : callω fns 35 vs h0 = some r :=
  callω_run fns (af := af35) rfl rfl rfl rfl hl h
theorem runs35 {vs : List AV} {h0 : H} (hl : vs.length ≤ 29) {p : AV × H → Prop} (h : GoC fns (fun e => Run (xends [.tmp 2] e) p) [] k35_16 ⟨fun j => (vs[j]?).getD .undef, fun _ => none, h0⟩) : CW fns 35 vs h0 p :=
  callω_runs fns (af := af35) rfl rfl rfl rfl hl h
theorem run12 {vs : List AV} {h0 : H} (hl : vs.length ≤ 20) {r : AV × H} (h : GoC fns (fun e => xends [.tmp 2, .tmp 3] e = some r) [] k12_5 ⟨fun j => (vs[j]?).getD .undef, fun _ => none, h0⟩) : callω fns 12 vs h0 = some r :=
  callω_run fns (af := af12) rfl rfl rfl rfl hl h
theorem runs12 {vs : List AV} {h0 : H} (hl : vs.length ≤ 20) {p : AV × H → Prop} (h : GoC fns (fun e => Run (xends [.tmp 2, .tmp 3] e) p) [] k12_5 ⟨fun j => (vs[j]?).getD .undef, fun _ => none, h0⟩) : CW fns 12 vs h0 p :=
  callω_runs fns (af := af12) rfl rfl rfl rfl hl h
theorem run85 {vs : List AV} {h0 : H} (hl : vs.length ≤ 38) {r : AV × H} (h : GoC fns (fun e => xends [.tmp 2, .tmp 3, .tmp 4] e = some r) [] k85_7 ⟨fun j => (vs[j]?).getD .undef, fun _ => none, h0⟩) : callω fns 85 vs h0 = some r :=
  callω_run fns (af := af85) rfl rfl rfl rfl hl h
theorem runs85 {vs : List AV} {h0 : H} (hl : vs.length ≤ 38) {p : AV × H → Prop} (h : GoC fns (fun e => Run (xends [.tmp 2, .tmp 3, .tmp 4] e) p) [] k85_7 ⟨fun j => (vs[j]?).getD .undef, fun _ => none, h0⟩) : CW fns 85 vs h0 p :=
  callω_runs fns (af := af85) rfl rfl rfl rfl hl h
theorem run71 {vs : List AV} {h0 : H} (hl : vs.length ≤ 20) {r : AV × H} (h : GoC fns (fun e => xends [.tmp 2, .tmp 3, .tmp 4] e = some r) [] k71_6 ⟨fun j => (vs[j]?).getD .undef, fun _ => none, h0⟩) : callω fns 71 vs h0 = some r :=
  callω_run fns (af := af71) rfl rfl rfl rfl hl h
theorem runs71 {vs : List AV} {h0 : H} (hl : vs.length ≤ 20) {p : AV × H → Prop} (h : GoC fns (fun e => Run (xends [.tmp 2, .tmp 3, .tmp 4] e) p) [] k71_6 ⟨fun j => (vs[j]?).getD .undef, fun _ => none, h0⟩) : CW fns 71 vs h0 p :=
  callω_runs fns (af := af71) rfl rfl rfl rfl hl h
theorem run70 {vs : List AV} {h0 : H} (hl : vs.length ≤ 8) {r : AV × H} (h : GoC fns (fun e => xends [.cell 4 true 2] e = some r) [] k70_1 ⟨fun j => (vs[j]?).getD .undef, fun _ => none, h0⟩) : callω fns 70 vs h0 = some r :=
  callω_run fns (af := af70) rfl rfl rfl rfl hl h
theorem runs70 {vs : List AV} {h0 : H} (hl : vs.length ≤ 8) {p : AV × H → Prop} (h : GoC fns (fun e => Run (xends [.cell 4 true 2] e) p) [] k70_1 ⟨fun j => (vs[j]?).getD .undef, fun _ => none, h0⟩) : CW fns 70 vs h0 p :=
  callω_runs fns (af := af70) rfl rfl rfl rfl hl h
theorem run82 {vs : List AV} {h0 : H} (hl : vs.length ≤ 8) {r : AV × H} (h : GoC fns (fun e => xends [.tmp 4] e = some r) [] k82_1 ⟨fun j => (vs[j]?).getD .undef, fun _ => none, h0⟩) : callω fns 82 vs h0 = some r :=
  callω_run fns (af := af82) rfl rfl rfl rfl hl h
theorem runs82 {vs : List AV} {h0 : H} (hl : vs.length ≤ 8) {p : AV × H → Prop} (h : GoC fns (fun e => Run (xends [.tmp 4] e) p) [] k82_1 ⟨fun j => (vs[j]?).getD .undef, fun _ => none, h0⟩) : CW fns 82 vs h0 p :=
  callω_runs fns (af := af82) rfl rfl rfl rfl hl h
theorem run84 {vs : List AV} {h0 : H} (hl : vs.length ≤ 94) {r : AV × H} (h : GoC fns (fun e => xends [.tmp 4, .tmp 5] e = some r) [] k84_81 ⟨fun j => (vs[j]?).getD .undef, fun _ => none, h0⟩) : callω fns 84 vs h0 = some r :=
  callω_run fns (af := af84) rfl rfl rfl rfl hl h
theorem runs84 {vs : List AV} {h0 : H} (hl : vs.length ≤ 94) {p : AV × H → Prop} (h : GoC fns (fun e => Run (xends [.tmp 4, .tmp 5] e) p) [] k84_81 ⟨fun j => (vs[j]?).getD .undef, fun _ => none, h0⟩) : CW fns 84 vs h0 p :=
  callω_runs fns (af := af84) rfl rfl rfl rfl hl h
theorem run72 {vs : List AV} {h0 : H} (hl : vs.length ≤ 63) {r : AV × H} (h : GoC fns (fun e => xends [.tmp 2, .tmp 3, .tmp 4] e = some r) [] k72_31 ⟨fun j => (vs[j]?).getD .undef, fun _ => none, h0⟩) : callω fns 72 vs h0 = some r :=
  callω_run fns (af := af72) rfl rfl rfl rfl hl h
theorem runs72 {vs : List AV} {h0 : H} (hl : vs.length ≤ 63) {p : AV × H → Prop} (h : GoC fns (fun e => Run (xends [.tmp 2, .tmp 3, .tmp 4] e) p) [] k72_31 ⟨fun j => (vs[j]?).getD .undef, fun _ => none, h0⟩) : CW fns 72 vs h0 p :=
  callω_runs fns (af := af72) rfl rfl rfl rfl hl h
theorem run81 {vs : List AV} {h0 : H} (hl : vs.length ≤ 19) {r : AV × H} (h : GoC fns (fun e => xends [.tmp 2, .tmp 3] e = some r) [] k81_10 ⟨fun j => (vs[j]?).getD .undef, fun _ => none, h0⟩) : callω fns 81 vs h0 = some r :=
  callω_run fns (af := af81) rfl rfl rfl rfl hl h
theorem runs81 {vs : List AV} {h0 : H} (hl : vs.length ≤ 19) {p : AV × H → Prop} (h : GoC fns (fun e => Run (xends [.tmp 2, .tmp 3] e) p) [] k81_10 ⟨fun j => (vs[j]?).getD .undef, fun _ => none, h0⟩) : CW fns 81 vs h0 p :=
  callω_runs fns (af := af81) rfl rfl rfl rfl hl h
theorem run73 {vs : List AV} {h0 : H} (hl : vs.length ≤ 11) {r : AV × H} (h : GoC fns (fun e => xends [.tmp 2] e = some r) [] k73_2 ⟨fun j => (vs[j]?).getD .undef, fun _ => none, h0⟩) : callω fns 73 vs h0 = some r :=
  callω_run fns (af := af73) rfl rfl rfl rfl hl h
theorem runs73 {vs : List AV} {h0 : H} (hl : vs.length ≤ 11) {p : AV × H → Prop} (h : GoC fns (fun e => Run (xends [.tmp 2] e) p) [] k73_2 ⟨fun j => (vs[j]?).getD .undef, fun _ => none, h0⟩) : CW fns 73 vs h0 p :=
  callω_runs fns (af := af73) rfl rfl rfl rfl hl h
theorem run69 {vs : List AV} {h0 : H} (hl : vs.length ≤ 31) {r : AV × H} (h : GoC fns (fun e => xends [.tmp 4, .tmp 5, .tmp 6] e = some r) [] k69_6 ⟨fun j => (vs[j]?).getD .undef, fun _ => none, h0⟩) : callω fns 69 vs h0 = some r :=
  callω_run fns (af := af69) rfl rfl rfl rfl hl h
theorem runs69 {vs : List AV} {h0 : H} (hl : vs.length ≤ 31) {p : AV × H → Prop} (h : GoC fns (fun e => Run (xends [.tmp 4, .tmp 5, .tmp 6] e) p) [] k69_6 ⟨fun j => (vs[j]?).getD .undef, fun _ => none, h0⟩) : CW fns 69 vs h0 p :=
  callω_runs fns (af := af69) rfl rfl rfl rfl hl h
theorem run83 {vs : List AV} {h0 : H} (hl : vs.length ≤ 25) {r : AV × H} (h : GoC fns (fun e => xends [.cell 4 true 2, .tmp 5, .tmp 6] e = some r) [] k83_6 ⟨fun j => (vs[j]?).getD .undef, fun _ => none, h0⟩) : callω fns 83 vs h0 = some r :=
  callω_run fns (af := af83) rfl rfl rfl rfl hl h
theorem runs83 {vs : List AV} {h0 : H} (hl : vs.length ≤ 25) {p : AV × H → Prop} (h : GoC fns (fun e => Run (xends [.cell 4 true 2, .tmp 5, .tmp 6] e) p) [] k83_6 ⟨fun j => (vs[j]?).getD .undef, fun _ => none, h0⟩) : CW fns 83 vs h0 p :=
  callω_runs fns (af := af83) rfl rfl rfl rfl hl h
theorem run62 {vs : List AV} {h0 : H} (hl : vs.length ≤ 40) {r : AV × H} (h : GoC fns (fun e => xends [.cell 2 true 2, .tmp 3] e = some r) [] k62_15 ⟨fun j => (vs[j]?).getD .undef, fun _ => none, h0⟩) : callω fns 62 vs h0 = some r :=
  callω_run fns (af := af62) rfl rfl rfl rfl hl h
theorem runs62 {vs : List AV} {h0 : H} (hl : vs.length ≤ 40) {p : AV × H → Prop} (h : GoC fns (fun e => Run (xends [.cell 2 true 2, .tmp 3] e) p) [] k62_15 ⟨fun j => (vs[j]?).getD .undef, fun _ => none, h0⟩) : CW fns 62 vs h0 p :=
  callω_runs fns (af := af62) rfl rfl rfl rfl hl h
theorem run74 {vs : List AV} {h0 : H} (hl : vs.length ≤ 11) {r : AV × H} (h : GoC fns (fun e => xends [.cell 2 true 2] e = some r) [] k74_2 ⟨fun j => (vs[j]?).getD .undef, fun _ => none, h0⟩) : callω fns 74 vs h0 = some r :=
  callω_run fns (af := af74) rfl rfl rfl rfl hl h
theorem runs74 {vs : List AV} {h0 : H} (hl : vs.length ≤ 11) {p : AV × H → Prop} (h : GoC fns (fun e => Run (xends [.cell 2 true 2] e) p) [] k74_2 ⟨fun j => (vs[j]?).getD .undef, fun _ => none, h0⟩) : CW fns 74 vs h0 p :=
  callω_runs fns (af := af74) rfl rfl rfl rfl hl h
theorem run90 {vs : List AV} {h0 : H} (hl : vs.length ≤ 32) {r : AV × H} (h : GoC fns (fun e => xends [.tmp 2, .tmp 3, .tmp 4] e = some r) [] k90_14 ⟨fun j => (vs[j]?).getD .undef, fun _ => none, h0⟩) : callω fns 90 vs h0 = some r :=
  callω_run fns (af := af90) rfl rfl rfl rfl hl h
theorem runs90 {vs : List AV} {h0 : H} (hl : vs.length ≤ 32) {p : AV × H → Prop} (h : GoC fns (fun e => Run (xends [.tmp 2, .tmp 3, .tmp 4] e) p) [] k90_14 ⟨fun j => (vs[j]?).getD .undef, fun _ => none, h0⟩) : CW fns 90 vs h0 p :=
  callω_runs fns (af := af90) rfl rfl rfl rfl hl h
theorem run86 {vs : List AV} {h0 : H} (hl : vs.length ≤ 10) {r : AV × H} (h : GoC fns (fun e => xends [.tmp 2, .tmp 3, .tmp 4] e = some r) [] k86_1 ⟨fun j => (vs[j]?).getD .undef, fun _ => none, h0⟩) : callω fns 86 vs h0 = some r :=
  callω_run fns (af := af86) rfl rfl rfl rfl hl h
theorem runs86 {vs : List AV} {h0 : H} (hl : vs.length ≤ 10) {p : AV × H → Prop} (h : GoC fns (fun e => Run (xends [.tmp 2, .tmp 3, .tmp 4] e) p) [] k86_1 ⟨fun j => (vs[j]?).getD .undef, fun _ => none, h0⟩) : CW fns 86 vs h0 p :=
  callω_runs fns (af := af86) rfl rfl rfl rfl hl h
theorem run75 {vs : List AV} {h0 : H} (hl : vs.length ≤ 29) {r : AV × H} (h : GoC fns (fun e => xends [.tmp 2] e = some r) [] k75_10 ⟨fun j => (vs[j]?).getD .undef, fun _ => none, h0⟩) : callω fns 75 vs h0 = some r :=
  callω_run fns (af := af75) rfl rfl rfl rfl hl h
theorem runs75 {vs : List AV} {h0 : H} (hl : vs.length ≤ 29) {p : AV × H → Prop} (h : GoC fns (fun e => Run (xends [.tmp 2] e) p) [] k75_10 ⟨fun j => (vs[j]?).getD .undef, fun _ => none, h0⟩) : CW fns 75 vs h0 p :=
  callω_runs fns (af := af75) rfl rfl rfl rfl hl h
theorem run87 {vs : List AV} {h0 : H} (hl : vs.length ≤ 10) {r : AV × H} (h : GoC fns (fun e => xends [.tmp 2, .tmp 3, .tmp 4] e = some r) [] k87_1 ⟨fun j => (vs[j]?).getD .undef, fun _ => none, h0⟩) : callω fns 87 vs h0 = some r :=
  callω_run fns (af := af87) rfl rfl rfl rfl hl h
theorem runs87 {vs : List AV} {h0 : H} (hl : vs.length ≤ 10) {p : AV × H → Prop} (h : GoC fns (fun e => Run (xends [.tmp 2, .tmp 3, .tmp 4] e) p) [] k87_1 ⟨fun j => (vs[j]?).getD .undef, fun _ => none, h0⟩) : CW fns 87 vs h0 p :=
  callω_runs fns (af := af87) rfl rfl rfl rfl hl h
theorem run76 {vs : List AV} {h0 : H} (hl : vs.length ≤ 29) {r : AV × H} (h : GoC fns (fun e => xends [.tmp 2] e = some r) [] k76_10 ⟨fun j => (vs[j]?).getD .undef, fun _ => none, h0⟩) : callω fns 76 vs h0 = some r :=
  callω_run fns (af := af76) rfl rfl rfl rfl hl h
theorem runs76 {vs : List AV} {h0 : H} (hl : vs.length ≤ 29) {p : AV × H → Prop} (h : GoC fns (fun e => Run (xends [.tmp 2] e) p) [] k76_10 ⟨fun j => (vs[j]?).getD .undef, fun _ => none, h0⟩) : CW fns 76 vs h0 p :=
  callω_runs fns (af := af76) rfl rfl rfl rfl hl h
theorem run61 {vs : List AV} {h0 : H} (hl : vs.length ≤ 14) {r : AV × H} (h : GoC fns (fun e => xends [.tmp 2, .tmp 3] e = some r) [] k61_2 ⟨fun j => (vs[j]?).getD .undef, fun _ => none, h0⟩) : callω fns 61 vs h0 = some r :=
  callω_run fns (af := af61) rfl rfl rfl rfl hl h
theorem runs61 {vs : List AV} {h0 : H} (hl : vs.length ≤ 14) {p : AV × H → Prop} (h : GoC fns (fun e => Run (xends [.tmp 2, .tmp 3] e) p) [] k61_2 ⟨fun j => (vs[j]?).getD .undef, fun _ => none, h0⟩) : CW fns 61 vs h0 p :=
  callω_runs fns (af := af61) rfl rfl rfl rfl hl h
theorem run77 {vs : List AV} {h0 : H} (hl : vs.length ≤ 11) {r : AV × H} (h : GoC fns (fun e => xends [.tmp 2] e = some r) [] k77_2 ⟨fun j => (vs[j]?).getD .undef, fun _ => none, h0⟩) : callω fns 77 vs h0 = some r :=
  callω_run fns (af := af77) rfl rfl rfl rfl hl h
theorem runs77 {vs : List AV} {h0 : H} (hl : vs.length ≤ 11) {p : AV × H → Prop} (h : GoC fns (fun e => Run (xends [.tmp 2] e) p) [] k77_2 ⟨fun j => (vs[j]?).getD .undef, fun _ => none, h0⟩) : CW fns 77 vs h0 p :=
  callω_runs fns (af := af77) rfl rfl rfl rfl hl h
theorem run55 {vs : List AV} {h0 : H} (hl : vs.length ≤ 113) {r : AV × H} (h : GoC fns (fun e => xends [.cell 4 true 2, .tmp 5] e = some r) [] k55_53 ⟨fun j => (vs[j]?).getD .undef, fun _ => none, h0⟩) : callω fns 55 vs h0 = some r :=
  callω_run fns (af := af55) rfl rfl rfl rfl hl h
theorem runs55 {vs : List AV} {h0 : H} (hl : vs.length ≤ 113) {p : AV × H → Prop} (h : GoC fns (fun e => Run (xends [.cell 4 true 2, .tmp 5] e) p) [] k55_53 ⟨fun j => (vs[j]?).getD .undef, fun _ => none, h0⟩) : CW fns 55 vs h0 p :=
  callω_runs fns (af := af55) rfl rfl rfl rfl hl h
theorem run56 {vs : List AV} {h0 : H} (hl : vs.length ≤ 8) {r : AV × H} (h : GoC fns (fun e => xends [.cell 2 true 2] e = some r) [] k56_1 ⟨fun j => (vs[j]?).getD .undef, fun _ => none, h0⟩) : callω fns 56 vs h0 = some r :=
  callω_run fns (af := af56) rfl rfl rfl rfl hl h
theorem runs56 {vs : List AV} {h0 : H} (hl : vs.length ≤ 8) {p : AV × H → Prop} (h : GoC fns (fun e => Run (xends [.cell 2 true 2] e) p) [] k56_1 ⟨fun j => (vs[j]?).getD .undef, fun _ => none, h0⟩) : CW fns 56 vs h0 p :=
  callω_runs fns (af := af56) rfl rfl rfl rfl hl h
theorem run36 {vs : List AV} {h0 : H} (hl : vs.length ≤ 17) {r : AV × H} (h : GoC fns (fun e => xends [.cell 4 true 2, .tmp 5] e = some r) [] k36_2 ⟨fun j => (vs[j]?).getD .undef, fun _ => none, h0⟩) : callω fns 36 vs h0 = some r :=
  callω_run fns (af := af36) rfl rfl rfl rfl hl h
theorem runs36 {vs : List AV} {h0 : H} (hl : vs.length ≤ 17) {p : AV × H → Prop} (h : GoC fns (fun e => Run (xends [.cell 4 true 2, .tmp 5] e) p) [] k36_2 ⟨fun j => (vs[j]?).getD .undef, fun _ => none, h0⟩) : CW fns 36 vs h0 p :=
  callω_runs fns (af := af36) rfl rfl rfl rfl hl h
theorem run40 {vs : List AV} {h0 : H} (hl : vs.length ≤ 5) {r : AV × H} (h : GoC fns (fun e => xends [.tmp 2] e = some r) [] k40_1 ⟨fun j => (vs[j]?).getD .undef, fun _ => none, h0⟩) : callω fns 40 vs h0 = some r :=
  callω_run fns (af := af40) rfl rfl rfl rfl hl h
theorem runs40 {vs : List AV} {h0 : H} (hl : vs.length ≤ 5) {p : AV × H → Prop} (h : GoC fns (fun e => Run (xends [.tmp 2] e) p) [] k40_1 ⟨fun j => (vs[j]?).getD .undef, fun _ => none, h0⟩) : CW fns 40 vs h0 p :=
  callω_runs fns (af := af40) rfl rfl rfl rfl hl h
theorem run37 {vs : List AV} {h0 : H} (hl : vs.length ≤ 10) {r : AV × H} (h : GoC fns (fun e => xends [.cell 2 true 2] e = some r) [] k37_1 ⟨fun j => (vs[j]?).getD .undef, fun _ => none, h0⟩) : callω fns 37 vs h0 = some r :=
  callω_run fns (af := af37) rfl rfl rfl rfl hl h
theorem runs37 {vs : List AV} {h0 : H} (hl : vs.length ≤ 10) {p : AV × H → Prop} (h : GoC fns (fun e => Run (xends [.cell 2 true 2] e) p) [] k37_1 ⟨fun j => (vs[j]?).getD .undef, fun _ => none, h0⟩) : CW fns 37 vs h0 p :=
  callω_runs fns (af := af37) rfl rfl rfl rfl hl h
theorem run31 {vs : List AV} {h0 : H} (hl : vs.length ≤ 42) {r : AV × H} (h : GoC fns (fun e => xends [.tmp 2] e = some r) [] k31_47 ⟨fun j => (vs[j]?).getD .undef, fun _ => none, h0⟩) : callω fns 31 vs h0 = some r :=
  callω_run fns (af := af31) rfl rfl rfl rfl hl h
theorem runs31 {vs : List AV} {h0 : H} (hl : vs.length ≤ 42) {p : AV × H → Prop} (h : GoC fns (fun e => Run (xends [.tmp 2] e) p) [] k31_47 ⟨fun j => (vs[j]?).getD .undef, fun _ => none, h0⟩) : CW fns 31 vs h0 p :=
  callω_runs fns (af := af31) rfl rfl rfl rfl hl h
theorem run14 {vs : List AV} {h0 : H} (hl : vs.length ≤ 18) {r : AV × H} (h : GoC fns (fun e => xends [.cell 4 true 2, .tmp 5] e = some r) [] k14_2 ⟨fun j => (vs[j]?).getD .undef, fun _ => none, h0⟩) : callω fns 14 vs h0 = some r :=
  callω_run fns (af := af14) rfl rfl rfl rfl hl h
theorem runs14 {vs : List AV} {h0 : H} (hl : vs.length ≤ 18) {p : AV × H → Prop} (h : GoC fns (fun e => Run (xends [.cell 4 true 2, .tmp 5] e) p) [] k14_2 ⟨fun j => (vs[j]?).getD .undef, fun _ => none, h0⟩) : CW fns 14 vs h0 p :=
  callω_runs fns (af := af14) rfl rfl rfl rfl hl h
theorem run38 {vs : List AV} {h0 : H} (hl : vs.length ≤ 20) {r : AV × H} (h : GoC fns (fun e => xends [.tmp 4] e = some r) [] k38_15 ⟨fun j => (vs[j]?).getD .undef, fun _ => none, h0⟩) : callω fns 38 vs h0 = some r :=
  callω_run fns (af := af38) rfl rfl rfl rfl hl h
theorem runs38 {vs : List AV} {h0 : H} (hl : vs.length ≤ 20) {p : AV × H → Prop} (h : GoC fns (fun e => Run (xends [.tmp 4] e) p) [] k38_15 ⟨fun j => (vs[j]?).getD .undef, fun _ => none, h0⟩) : CW fns 38 vs h0 p :=
  callω_runs fns (af := af38) rfl rfl rfl rfl hl h
theorem run15 {vs : List AV} {h0 : H} (hl : vs.length ≤ 43) {r : AV × H} (h : GoC fns (fun e => xends [.cell 4 true 8, .tmp 5] e = some r) [] k15_23 ⟨fun j => (vs[j]?).getD .undef, fun _ => none, h0⟩) : callω fns 15 vs h0 = some r :=
  callω_run fns (af := af15) rfl rfl rfl rfl hl h
theorem runs15 {vs : List AV} {h0 : H} (hl : vs.length ≤ 43) {p : AV × H → Prop} (h : GoC fns (fun e => Run (xends [.cell 4 true 8, .tmp 5] e) p) [] k15_23 ⟨fun j => (vs[j]?).getD .undef, fun _ => none, h0⟩) : CW fns 15 vs h0 p :=
  callω_runs fns (af := af15) rfl rfl rfl rfl hl h
theorem run9 {vs : List AV} {h0 : H} (hl : vs.length ≤ 8) {r : AV × H} (h : GoC fns (fun e => xends [.cell 2 true 2] e = some r) [] k9_1 ⟨fun j => (vs[j]?).getD .undef, fun _ => none, h0⟩) : callω fns 9 vs h0 = some r :=
  callω_run fns (af := af9) rfl rfl rfl rfl hl h
theorem runs9 {vs : List AV} {h0 : H} (hl : vs.length ≤ 8) {p : AV × H → Prop} (h : GoC fns (fun e => Run (xends [.cell 2 true 2] e) p) [] k9_1 ⟨fun j => (vs[j]?).getD .undef, fun _ => none, h0⟩) : CW fns 9 vs h0 p :=
  callω_runs fns (af := af9) rfl rfl rfl rfl hl h
theorem run16 {vs : List AV} {h0 : H} (hl : vs.length ≤ 19) {r : AV × H} (h : GoC fns (fun e => xends [.tmp 4] e = some r) [] k16_1 ⟨fun j => (vs[j]?).getD .undef, fun _ => none, h0⟩) : callω fns 16 vs h0 = some r :=
  callω_run fns (af := af16) rfl rfl rfl rfl hl h
theorem runs16 {vs : List AV} {h0 : H} (hl : vs.length ≤ 19) {p : AV × H → Prop} (h : GoC fns (fun e => Run (xends [.tmp 4] e) p) [] k16_1 ⟨fun j => (vs[j]?).getD .undef, fun _ => none, h0⟩) : CW fns 16 vs h0 p :=
  callω_runs fns (af := af16) rfl rfl rfl rfl hl h
theorem run4 {vs : List AV} {h0 : H} (hl : vs.length ≤ 74) {r : AV × H} (h : GoC fns (fun e => xends [.tmp 4] e = some r) [] k4_30 ⟨fun j => (vs[j]?).getD .undef, fun _ => none, h0⟩) : callω fns 4 vs h0 = some r :=
  callω_run fns (af := af4) rfl rfl rfl rfl hl h
theorem runs4 {vs : List AV} {h0 : H} (hl : vs.length ≤ 74) {p : AV × H → Prop} (h : GoC fns (fun e => Run (xends [.tmp 4] e) p) [] k4_30 ⟨fun j => (vs[j]?).getD .undef, fun _ => none, h0⟩) : CW fns 4 vs h0 p :=
  callω_runs fns (af := af4) rfl rfl rfl rfl hl h
theorem run54 {vs : List AV} {h0 : H} (hl : vs.length ≤ 23) {r : AV × H} (h : GoC fns (fun e => xends [.tmp 2] e = some r) [] k54_6 ⟨fun j => (vs[j]?).getD .undef, fun _ => none, h0⟩) : callω fns 54 vs h0 = some r :=
  callω_run fns (af := af54) rfl rfl rfl rfl hl h
theorem runs54 {vs : List AV} {h0 : H} (hl : vs.length ≤ 23) {p : AV × H → Prop} (h : GoC fns (fun e => Run (xends [.tmp 2] e) p) [] k54_6 ⟨fun j => (vs[j]?).getD .undef, fun _ => none, h0⟩) : CW fns 54 vs h0 p :=
  callω_runs fns (af := af54) rfl rfl rfl rfl hl h
theorem run63 {vs : List AV} {h0 : H} (hl : vs.length ≤ 23) {r : AV × H} (h : GoC fns (fun e => xends [.tmp 2] e = some r) [] k63_10 ⟨fun j => (vs[j]?).getD .undef, fun _ => none, h0⟩) : callω fns 63 vs h0 = some r :=
  callω_run fns (af := af63) rfl rfl rfl rfl hl h
theorem runs63 {vs : List AV} {h0 : H} (hl : vs.length ≤ 23) {p : AV × H → Prop} (h : GoC fns (fun e => Run (xends [.tmp 2] e) p) [] k63_10 ⟨fun j => (vs[j]?).getD .undef, fun _ => none, h0⟩) : CW fns 63 vs h0 p :=
  callω_runs fns (af := af63) rfl rfl rfl rfl hl h
theorem run57 {vs : List AV} {h0 : H} (hl : vs.length ≤ 55) {r : AV × H} (h : GoC fns (fun e => xends [.tmp 2, .tmp 3] e = some r) [] k57_29 ⟨fun j => (vs[j]?).getD .undef, fun _ => none, h0⟩) : callω fns 57 vs h0 = some r :=
  callω_run fns (af := af57) rfl rfl rfl rfl hl h
theorem runs57 {vs : List AV} {h0 : H} (hl : vs.length ≤ 55) {p : AV × H → Prop} (h : GoC fns (fun e => Run (xends [.tmp 2, .tmp 3] e) p) [] k57_29 ⟨fun j => (vs[j]?).getD .undef, fun _ => none, h0⟩) : CW fns 57 vs h0 p :=
  callω_runs fns (af := af57) rfl rfl rfl rfl hl h
theorem run39 {vs : List AV} {h0 : H} (hl : vs.length ≤ 37) {r : AV × H} (h : GoC fns (fun e => xends [.tmp 2, .tmp 3] e = some r) [] k39_25 ⟨fun j => (vs[j]?).getD .undef, fun _ => none, h0⟩) : callω fns 39 vs h0 = some r :=
  callω_run fns (af := af39) rfl rfl rfl rfl hl h
theorem runs39 {vs : List AV} {h0 : H} (hl : vs.length ≤ 37) {p : AV × H → Prop} (h : GoC fns (fun e => Run (xends [.tmp 2, .tmp 3] e) p) [] k39_25 ⟨fun j => (vs[j]?).getD .undef, fun _ => none, h0⟩) : CW fns 39 vs h0 p :=
  callω_runs fns (af := af39) rfl rfl rfl rfl hl h
theorem run17 {vs : List AV} {h0 : H} (hl : vs.length ≤ 29) {r : AV × H} (h : GoC fns (fun e => xends [.tmp 2, .tmp 3] e = some r) [] k17_16 ⟨fun j => (vs[j]?).getD .undef, fun _ => none, h0⟩) : callω fns 17 vs h0 = some r :=
  callω_run fns (af := af17) rfl rfl rfl rfl hl h
theorem runs17 {vs : List AV} {h0 : H} (hl : vs.length ≤ 29) {p : AV × H → Prop} (h : GoC fns (fun e => Run (xends [.tmp 2, .tmp 3] e) p) [] k17_16 ⟨fun j => (vs[j]?).getD .undef, fun _ => none, h0⟩) : CW fns 17 vs h0 p :=
  callω_runs fns (af := af17) rfl rfl rfl rfl hl h
theorem run78 {vs : List AV} {h0 : H} (hl : vs.length ≤ 57) {r : AV × H} (h : GoC fns (fun e => xends [.tmp 2, .tmp 3] e = some r) [] k78_29 ⟨fun j => (vs[j]?).getD .undef, fun _ => none, h0⟩) : callω fns 78 vs h0 = some r :=
  callω_run fns (af := af78) rfl rfl rfl rfl hl h
theorem runs78 {vs : List AV} {h0 : H} (hl : vs.length ≤ 57) {p : AV × H → Prop} (h : GoC fns (fun e => Run (xends [.tmp 2, .tmp 3] e) p) [] k78_29 ⟨fun j => (vs[j]?).getD .undef, fun _ => none, h0⟩) : CW fns 78 vs h0 p :=
  callω_runs fns (af := af78) rfl rfl rfl rfl hl h
theorem run58 {vs : List AV} {h0 : H} (hl : vs.length ≤ 8) {r : AV × H} (h : GoC fns (fun e => xends [.tmp 2, .tmp 3] e = some r) [] k58_1 ⟨fun j => (vs[j]?).getD .undef, fun _ => none, h0⟩) : callω fns 58 vs h0 = some r :=
  callω_run fns (af := af58) rfl rfl rfl rfl hl h
theorem runs58 {vs : List AV} {h0 : H} (hl : vs.length ≤ 8) {p : AV × H → Prop} (h : GoC fns (fun e => Run (xends [.tmp 2, .tmp 3] e) p) [] k58_1 ⟨fun j => (vs[j]?).getD .undef, fun _ => none, h0⟩) : CW fns 58 vs h0 p :=
  callω_runs fns (af := af58) rfl rfl rfl rfl hl h
theorem run41 {vs : List AV} {h0 : H} (hl : vs.length ≤ 31) {r : AV × H} (h : GoC fns (fun e => xends [.tmp 2, .tmp 3] e = some r) [] k41_16 ⟨fun j => (vs[j]?).getD .undef, fun _ => none, h0⟩) : callω fns 41 vs h0 = some r :=
  callω_run fns (af := af41) rfl rfl rfl rfl hl h
theorem runs41 {vs : List AV} {h0 : H} (hl : vs.length ≤ 31) {p : AV × H → Prop} (h : GoC fns (fun e => Run (xends [.tmp 2, .tmp 3] e) p) [] k41_16 ⟨fun j => (vs[j]?).getD .undef, fun _ => none, h0⟩) : CW fns 41 vs h0 p :=
  callω_runs fns (af := af41) rfl rfl rfl rfl hl h
theorem run42 {vs : List AV} {h0 : H} (hl : vs.length ≤ 19) {r : AV × H} (h : GoC fns (fun e => xends [.tmp 2] e = some r) [] k42_15 ⟨fun j => (vs[j]?).getD .undef, fun _ => none, h0⟩) : callω fns 42 vs h0 = some r :=
  callω_run fns (af := af42) rfl rfl rfl rfl hl h
theorem runs42 {vs : List AV} {h0 : H} (hl : vs.length ≤ 19) {p : AV × H → Prop} (h : GoC fns (fun e => Run (xends [.tmp 2] e) p) [] k42_15 ⟨fun j => (vs[j]?).getD .undef, fun _ => none, h0⟩) : CW fns 42 vs h0 p :=
  callω_runs fns (af := af42) rfl rfl rfl rfl hl h
theorem run18 {vs : List AV} {h0 : H} (hl : vs.length ≤ 15) {r : AV × H} (h : GoC fns (fun e => xends [.tmp 2, .tmp 3] e = some r) [] k18_2 ⟨fun j => (vs[j]?).getD .undef, fun _ => none, h0⟩) : callω fns 18 vs h0 = some r :=
  callω_run fns (af := af18) rfl rfl rfl rfl hl h
theorem runs18 {vs : List AV} {h0 : H} (hl : vs.length ≤ 15) {p : AV × H → Prop} (h : GoC fns (fun e => Run (xends [.tmp 2, .tmp 3] e) p) [] k18_2 ⟨fun j => (vs[j]?).getD .undef, fun _ => none, h0⟩) : CW fns 18 vs h0 p :=
  callω_runs fns (af := af18) rfl rfl rfl rfl hl h
theorem run88 {vs : List AV} {h0 : H} (hl : vs.length ≤ 10) {r : AV × H} (h : GoC fns (fun e => xends [.tmp 6] e = some r) [] k88_1 ⟨fun j => (vs[j]?).getD .undef, fun _ => none, h0⟩) : callω fns 88 vs h0 = some r :=
  callω_run fns (af := af88) rfl rfl rfl rfl hl h
theorem runs88 {vs : List AV} {h0 : H} (hl : vs.length ≤ 10) {p : AV × H → Prop} (h : GoC fns (fun e => Run (xends [.tmp 6] e) p) [] k88_1 ⟨fun j => (vs[j]?).getD .undef, fun _ => none, h0⟩) : CW fns 88 vs h0 p :=
  callω_runs fns (af := af88) rfl rfl rfl rfl hl h
theorem run79 {vs : List AV} {h0 : H} (hl : vs.length ≤ 8) {r : AV × H} (h : GoC fns (fun e => xends [.tmp 4] e = some r) [] k79_1 ⟨fun j => (vs[j]?).getD .undef, fun _ => none, h0⟩) : callω fns 79 vs h0 = some r :=
  callω_run fns (af := af79) rfl rfl rfl rfl hl h
theorem runs79 {vs : List AV} {h0 : H} (hl : vs.length ≤ 8) {p : AV × H → Prop} (h : GoC fns (fun e => Run (xends [.tmp 4] e) p) [] k79_1 ⟨fun j => (vs[j]?).getD .undef, fun _ => none, h0⟩) : CW fns 79 vs h0 p :=
  callω_runs fns (af := af79) rfl rfl rfl rfl hl h
theorem run59 {vs : List AV} {h0 : H} (hl : vs.length ≤ 76) {r : AV × H} (h : GoC fns (fun e => xends [.tmp 2] e = some r) [] k59_42 ⟨fun j => (vs[j]?).getD .undef, fun _ => none, h0⟩) : callω fns 59 vs h0 = some r :=
  callω_run fns (af := af59) rfl rfl rfl rfl hl h
theorem runs59 {vs : List AV} {h0 : H} (hl : vs.length ≤ 76) {p : AV × H → Prop} (h : GoC fns (fun e => Run (xends [.tmp 2] e) p) [] k59_42 ⟨fun j => (vs[j]?).getD .undef, fun _ => none, h0⟩) : CW fns 59 vs h0 p :=
  callω_runs fns (af := af59) rfl rfl rfl rfl hl h
theorem run43 {vs : List AV} {h0 : H} (hl : vs.length ≤ 5) {r : AV × H} (h : GoC fns (fun e => xends [.tmp 2] e = some r) [] k43_1 ⟨fun j => (vs[j]?).getD .undef, fun _ => none, h0⟩) : callω fns 43 vs h0 = some r :=
  callω_run fns (af := af43) rfl rfl rfl rfl hl h
theorem runs43 {vs : List AV} {h0 : H} (hl : vs.length ≤ 5) {p : AV × H → Prop} (h : GoC fns (fun e => Run (xends [.tmp 2] e) p) [] k43_1 ⟨fun j => (vs[j]?).getD .undef, fun _ => none, h0⟩) : CW fns 43 vs h0 p :=
  callω_runs fns (af := af43) rfl rfl rfl rfl hl h
theorem run19 {vs : List AV} {h0 : H} (hl : vs.length ≤ 6) {r : AV × H} (h : GoC fns (fun e => xends [.tmp 2] e = some r) [] k19_1 ⟨fun j => (vs[j]?).getD .undef, fun _ => none, h0⟩) : callω fns 19 vs h0 = some r :=
  callω_run fns (af := af19) rfl rfl rfl rfl hl h
theorem runs19 {vs : List AV} {h0 : H} (hl : vs.length ≤ 6) {p : AV × H → Prop} (h : GoC fns (fun e => Run (xends [.tmp 2] e) p) [] k19_1 ⟨fun j => (vs[j]?).getD .undef, fun _ => none, h0⟩) : CW fns 19 vs h0 p :=
  callω_runs fns (af := af19) rfl rfl rfl rfl hl h
theorem run80 {vs : List AV} {h0 : H} (hl : vs.length ≤ 51) {r : AV × H} (h : GoC fns (fun e => xends [.tmp 4, .tmp 5] e = some r) [] k80_28 ⟨fun j => (vs[j]?).getD .undef, fun _ => none, h0⟩) : callω fns 80 vs h0 = some r :=
  callω_run fns (af := af80) rfl rfl rfl rfl hl h
theorem runs80 {vs : List AV} {h0 : H} (hl : vs.length ≤ 51) {p : AV × H → Prop} (h : GoC fns (fun e => Run (xends [.tmp 4, .tmp 5] e) p) [] k80_28 ⟨fun j => (vs[j]?).getD .undef, fun _ => none, h0⟩) : CW fns 80 vs h0 p :=
  callω_runs fns (af := af80) rfl rfl rfl rfl hl h
theorem run60 {vs : List AV} {h0 : H} (hl : vs.length ≤ 11) {r : AV × H} (h : GoC fns (fun e => xends [.tmp 4, .tmp 5] e = some r) [] k60_1 ⟨fun j => (vs[j]?).getD .undef, fun _ => none, h0⟩) : callω fns 60 vs h0 = some r :=
  callω_run fns (af := af60) rfl rfl rfl rfl hl h
theorem runs60 {vs : List AV} {h0 : H} (hl : vs.length ≤ 11) {p : AV × H → Prop} (h : GoC fns (fun e => Run (xends [.tmp 4, .tmp 5] e) p) [] k60_1 ⟨fun j => (vs[j]?).getD .undef, fun _ => none, h0⟩) : CW fns 60 vs h0 p :=
  callω_runs fns (af := af60) rfl rfl rfl rfl hl h
theorem run44 {vs : List AV} {h0 : H} (hl : vs.length ≤ 16) {r : AV × H} (h : GoC fns (fun e => xends [.tmp 4, .tmp 5] e = some r) [] k44_2 ⟨fun j => (vs[j]?).getD .undef, fun _ => none, h0⟩) : callω fns 44 vs h0 = some r :=
  callω_run fns (af := af44) rfl rfl rfl rfl hl h
theorem runs44 {vs : List AV} {h0 : H} (hl : vs.length ≤ 16) {p : AV × H → Prop} (h : GoC fns (fun e => Run (xends [.tmp 4, .tmp 5] e) p) [] k44_2 ⟨fun j => (vs[j]?).getD .undef, fun _ => none, h0⟩) : CW fns 44 vs h0 p :=
  callω_runs fns (af := af44) rfl rfl rfl rfl hl h
theorem run21 {vs : List AV} {h0 : H} (hl : vs.length ≤ 19) {r : AV × H} (h : GoC fns (fun e => xends [.tmp 4, .tmp 5] e = some r) [] k21_2 ⟨fun j => (vs[j]?).getD .undef, fun _ => none, h0⟩) : callω fns 21 vs h0 = some r :=
  callω_run fns (af := af21) rfl rfl rfl rfl hl h
theorem runs21 {vs : List AV} {h0 : H} (hl : vs.length ≤ 19) {p : AV × H → Prop} (h : GoC fns (fun e => Run (xends [.tmp 4, .tmp 5] e) p) [] k21_2 ⟨fun j => (vs[j]?).getD .undef, fun _ => none, h0⟩) : CW fns 21 vs h0 p :=
  callω_runs fns (af := af21) rfl rfl rfl rfl hl h
theorem run5 {vs : List AV} {h0 : H} (hl : vs.length ≤ 123) {r : AV × H} (h : GoC fns (fun e => xends [.tmp 2] e = some r) [] k5_33 ⟨fun j => (vs[j]?).getD .undef, fun _ => none, h0⟩) : callω fns 5 vs h0 = some r :=
  callω_run fns (af := af5) rfl rfl rfl rfl hl h
theorem runs5 {vs : List AV} {h0 : H} (hl : vs.length ≤ 123) {p : AV × H → Prop} (h : GoC fns (fun e => Run (xends [.tmp 2] e) p) [] k5_33 ⟨fun j => (vs[j]?).getD .undef, fun _ => none, h0⟩) : CW fns 5 vs h0 p :=
  callω_runs fns (af := af5) rfl rfl rfl rfl hl h
theorem run22 {vs : List AV} {h0 : H} (hl : vs.length ≤ 31) {r : AV × H} (h : GoC fns (fun e => xends [.tmp 2, .tmp 3] e = some r) [] k22_5 ⟨fun j => (vs[j]?).getD .undef, fun _ => none, h0⟩) : callω fns 22 vs h0 = some r :=
  callω_run fns (af := af22) rfl rfl rfl rfl hl h
theorem runs22 {vs : List AV} {h0 : H} (hl : vs.length ≤ 31) {p : AV × H → Prop} (h : GoC fns (fun e => Run (xends [.tmp 2, .tmp 3] e) p) [] k22_5 ⟨fun j => (vs[j]?).getD .undef, fun _ => none, h0⟩) : CW fns 22 vs h0 p :=
  callω_runs fns (af := af22) rfl rfl rfl rfl hl h
theorem run45 {vs : List AV} {h0 : H} (hl : vs.length ≤ 8) {r : AV × H} (h : GoC fns (fun e => xends [.tmp 2, .tmp 3] e = some r) [] k45_1 ⟨fun j => (vs[j]?).getD .undef, fun _ => none, h0⟩) : callω fns 45 vs h0 = some r :=
  callω_run fns (af := af45) rfl rfl rfl rfl hl h
theorem runs45 {vs : List AV} {h0 : H} (hl : vs.length ≤ 8) {p : AV × H → Prop} (h : GoC fns (fun e => Run (xends [.tmp 2, .tmp 3] e) p) [] k45_1 ⟨fun j => (vs[j]?).getD .undef, fun _ => none, h0⟩) : CW fns 45 vs h0 p :=
  callω_runs fns (af := af45) rfl rfl rfl rfl hl h
theorem run23 {vs : List AV} {h0 : H} (hl : vs.length ≤ 14) {r : AV × H} (h : GoC fns (fun e => xends [.tmp 2, .tmp 3] e = some r) [] k23_2 ⟨fun j => (vs[j]?).getD .undef, fun _ => none, h0⟩) : callω fns 23 vs h0 = some r :=
  callω_run fns (af := af23) rfl rfl rfl rfl hl h
theorem runs23 {vs : List AV} {h0 : H} (hl : vs.length ≤ 14) {p : AV × H → Prop} (h : GoC fns (fun e => Run (xends [.tmp 2, .tmp 3] e) p) [] k23_2 ⟨fun j => (vs[j]?).getD .undef, fun _ => none, h0⟩) : CW fns 23 vs h0 p :=
  callω_runs fns (af := af23) rfl rfl rfl rfl hl h
theorem run46 {vs : List AV} {h0 : H} (hl : vs.length ≤ 14) {r : AV × H} (h : GoC fns (fun e => xends [.cell 2 true 2, .tmp 3] e = some r) [] k46_2 ⟨fun j => (vs[j]?).getD .undef, fun _ => none, h0⟩) : callω fns 46 vs h0 = some r :=
  callω_run fns (af := af46) rfl rfl rfl rfl hl h
theorem runs46 {vs : List AV} {h0 : H} (hl : vs.length ≤ 14) {p : AV × H → Prop} (h : GoC fns (fun e => Run (xends [.cell 2 true 2, .tmp 3] e) p) [] k46_2 ⟨fun j => (vs[j]?).getD .undef, fun _ => none, h0⟩) : CW fns 46 vs h0 p :=
  callω_runs fns (af := af46) rfl rfl rfl rfl hl h
theorem run24 {vs : List AV} {h0 : H} (hl : vs.length ≤ 15) {r : AV × H} (h : GoC fns (fun e => xends [.cell 2 true 2, .tmp 3] e = some r) [] k24_2 ⟨fun j => (vs[j]?).getD .undef, fun _ => none, h0⟩) : callω fns 24 vs h0 = some r :=
  callω_run fns (af := af24) rfl rfl rfl rfl hl h
theorem runs24 {vs : List AV} {h0 : H} (hl : vs.length ≤ 15) {p : AV × H → Prop} (h : GoC fns (fun e => Run (xends [.cell 2 true 2, .tmp 3] e) p) [] k24_2 ⟨fun j => (vs[j]?).getD .undef, fun _ => none, h0⟩) : CW fns 24 vs h0 p :=
  callω_runs fns (af := af24) rfl rfl rfl rfl hl h
theorem run47 {vs : List AV} {h0 : H} (hl : vs.length ≤ 5) {r : AV × H} (h : GoC fns (fun e => xends [.tmp 2] e = some r) [] k47_1 ⟨fun j => (vs[j]?).getD .undef, fun _ => none, h0⟩) : callω fns 47 vs h0 = some r :=
  callω_run fns (af := af47) rfl rfl rfl rfl hl h
theorem runs47 {vs : List AV} {h0 : H} (hl : vs.length ≤ 5) {p : AV × H → Prop} (h : GoC fns (fun e => Run (xends [.tmp 2] e) p) [] k47_1 ⟨fun j => (vs[j]?).getD .undef, fun _ => none, h0⟩) : CW fns 47 vs h0 p :=
  callω_runs fns (af := af47) rfl rfl rfl rfl hl h
theorem run25 {vs : List AV} {h0 : H} (hl : vs.length ≤ 6) {r : AV × H} (h : GoC fns (fun e => xends [.tmp 2] e = some r) [] k25_1 ⟨fun j => (vs[j]?).getD .undef, fun _ => none, h0⟩) : callω fns 25 vs h0 = some r :=
  callω_run fns (af := af25) rfl rfl rfl rfl hl h
theorem runs25 {vs : List AV} {h0 : H} (hl : vs.length ≤ 6) {p : AV × H → Prop} (h : GoC fns (fun e => Run (xends [.tmp 2] e) p) [] k25_1 ⟨fun j => (vs[j]?).getD .undef, fun _ => none, h0⟩) : CW fns 25 vs h0 p :=
  callω_runs fns (af := af25) rfl rfl rfl rfl hl h
theorem run6 {vs : List AV} {h0 : H} (hl : vs.length ≤ 179) {r : AV × H} (h : GoC fns (fun e => xends [.tmp 2] e = some r) [] k6_39 ⟨fun j => (vs[j]?).getD .undef, fun _ => none, h0⟩) : callω fns 6 vs h0 = some r :=
  callω_run fns (af := af6) rfl rfl rfl rfl hl h
theorem runs6 {vs : List AV} {h0 : H} (hl : vs.length ≤ 179) {p : AV × H → Prop} (h : GoC fns (fun e => Run (xends [.tmp 2] e) p) [] k6_39 ⟨fun j => (vs[j]?).getD .undef, fun _ => none, h0⟩) : CW fns 6 vs h0 p :=
  callω_runs fns (af := af6) rfl rfl rfl rfl hl h
theorem run32 {vs : List AV} {h0 : H} (hl : vs.length ≤ 9) {r : AV × H} (h : GoC fns (fun e => xends [.cell 2 true 2] e = some r) [] k32_1 ⟨fun j => (vs[j]?).getD .undef, fun _ => none, h0⟩) : callω fns 32 vs h0 = some r :=
  callω_run fns (af := af32) rfl rfl rfl rfl hl h
theorem runs32 {vs : List AV} {h0 : H} (hl : vs.length ≤ 9) {p : AV × H → Prop} (h : GoC fns (fun e => Run (xends [.cell 2 true 2] e) p) [] k32_1 ⟨fun j => (vs[j]?).getD .undef, fun _ => none, h0⟩) : CW fns 32 vs h0 p :=
  callω_runs fns (af := af32) rfl rfl rfl rfl hl h
theorem run53 {vs : List AV} {h0 : H} (hl : vs.length ≤ 8) {r : AV × H} (h : GoC fns (fun e => xends [.cell 2 true 2] e = some r) [] k53_1 ⟨fun j => (vs[j]?).getD .undef, fun _ => none, h0⟩) : callω fns 53 vs h0 = some r :=
  callω_run fns (af := af53) rfl rfl rfl rfl hl h
theorem runs53 {vs : List AV} {h0 : H} (hl : vs.length ≤ 8) {p : AV × H → Prop} (h : GoC fns (fun e => Run (xends [.cell 2 true 2] e) p) [] k53_1 ⟨fun j => (vs[j]?).getD .undef, fun _ => none, h0⟩) : CW fns 53 vs h0 p :=
  callω_runs fns (af := af53) rfl rfl rfl rfl hl h
theorem run33 {vs : List AV} {h0 : H} (hl : vs.length ≤ 6) {r : AV × H} (h : GoC fns (fun e => xends [.tmp 2] e = some r) [] k33_1 ⟨fun j => (vs[j]?).getD .undef, fun _ => none, h0⟩) : callω fns 33 vs h0 = some r :=
  callω_run fns (af := af33) rfl rfl rfl rfl hl h
theorem runs33 {vs : List AV} {h0 : H} (hl : vs.length ≤ 6) {p : AV × H → Prop} (h : GoC fns (fun e => Run (xends [.tmp 2] e) p) [] k33_1 ⟨fun j => (vs[j]?).getD .undef, fun _ => none, h0⟩) : CW fns 33 vs h0 p :=
  callω_runs fns (af := af33) rfl rfl rfl rfl hl h
theorem run10 {vs : List AV} {h0 : H} (hl : vs.length ≤ 7) {r : AV × H} (h : GoC fns (fun e => xends [.tmp 2] e = some r) [] k10_1 ⟨fun j => (vs[j]?).getD .undef, fun _ => none, h0⟩) : callω fns 10 vs h0 = some r :=
  callω_run fns (af := af10) rfl rfl rfl rfl hl h
theorem runs10 {vs : List AV} {h0 : H} (hl : vs.length ≤ 7) {p : AV × H → Prop} (h : GoC fns (fun e => Run (xends [.tmp 2] e) p) [] k10_1 ⟨fun j => (vs[j]?).getD .undef, fun _ => none, h0⟩) : CW fns 10 vs h0 p :=
  callω_runs fns (af := af10) rfl rfl rfl rfl hl h
theorem run3 {vs : List AV} {h0 : H} (hl : vs.length ≤ 37) {r : AV × H} (h : GoC fns (fun e => xends [.tmp 4] e = some r) [] k3_14 ⟨fun j => (vs[j]?).getD .undef, fun _ => none, h0⟩) : callω fns 3 vs h0 = some r :=
  callω_run fns (af := af3) rfl rfl rfl rfl hl h
theorem runs3 {vs : List AV} {h0 : H} (hl : vs.length ≤ 37) {p : AV × H → Prop} (h : GoC fns (fun e => Run (xends [.tmp 4] e) p) [] k3_14 ⟨fun j => (vs[j]?).getD .undef, fun _ => none, h0⟩) : CW fns 3 vs h0 p :=
  callω_runs fns (af := af3) rfl rfl rfl rfl hl h

theorem runv7 {vs : List AV} {h0 : H} (hl : vs.length ≤ 19) {v : AV} (h : GoC fns (fun e => Run (xends [.tmp 2] e) fun q => noHeap h0.n q = some v) [] k7_17 ⟨fun j => (vs[j]?).getD .undef, fun _ => none, h0⟩) : callv fns 7 vs h0 = some v :=
  callω_runv fns (af := af7) rfl rfl rfl rfl hl h
theorem runv11 {vs : List AV} {h0 : H} (hl : vs.length ≤ 18) {v : AV} (h : GoC fns (fun e => Run (xends [.tmp 2] e) fun q => noHeap h0.n q = some v) [] k11_20 ⟨fun j => (vs[j]?).getD .undef, fun _ => none, h0⟩) : callv fns 11 vs h0 = some v :=
  callω_runv fns (af := af11) rfl rfl rfl rfl hl h
theorem runv27 {vs : List AV} {h0 : H} (hl : vs.length ≤ 32) {v : AV} (h : GoC fns (fun e => Run (xends [.tmp 4] e) fun q => noHeap h0.n q = some v) [] k27_14 ⟨fun j => (vs[j]?).getD .undef, fun _ => none, h0⟩) : callv fns 27 vs h0 = some v :=
  callω_runv fns (af := af27) rfl rfl rfl rfl hl h
theorem runv64 {vs : List AV} {h0 : H} (hl : vs.length ≤ 17) {v : AV} (h : GoC fns (fun e => Run (xends [.tmp 2] e) fun q => noHeap h0.n q = some v) [] k64_1 ⟨fun j => (vs[j]?).getD .undef, fun _ => none, h0⟩) : callv fns 64 vs h0 = some v :=
  callω_runv fns (af := af64) rfl rfl rfl rfl hl h
theorem runv65 {vs : List AV} {h0 : H} (hl : vs.length ≤ 48) {v : AV} (h : GoC fns (fun e => Run (xends [.cell 2 true 8] e) fun q => noHeap h0.n q = some v) [] k65_52 ⟨fun j => (vs[j]?).getD .undef, fun _ => none, h0⟩) : callv fns 65 vs h0 = some v :=
  callω_runv fns (af := af65) rfl rfl rfl rfl hl h
theorem runv13 {vs : List AV} {h0 : H} (hl : vs.length ≤ 14) {v : AV} (h : GoC fns (fun e => Run (xends [.tmp 2] e) fun q => noHeap h0.n q = some v) [] k13_15 ⟨fun j => (vs[j]?).getD .undef, fun _ => none, h0⟩) : callv fns 13 vs h0 = some v :=
  callω_runv fns (af := af13) rfl rfl rfl rfl hl h
theorem runv66 {vs : List AV} {h0 : H} (hl : vs.length ≤ 20) {v : AV} (h : GoC fns (fun e => Run (xends [.tmp 2] e) fun q => noHeap h0.n q = some v) [] k66_5 ⟨fun j => (vs[j]?).getD .undef, fun _ => none, h0⟩) : callv fns 66 vs h0 = some v :=
  callω_runv fns (af := af66) rfl rfl rfl rfl hl h
theorem runv48 {vs : List AV} {h0 : H} (hl : vs.length ≤ 138) {v : AV} (h : GoC fns (fun e => Run (xends [.tmp 4] e) fun q => noHeap h0.n q = some v) [] k48_46 ⟨fun j => (vs[j]?).getD .undef, fun _ => none, h0⟩) : callv fns 48 vs h0 = some v :=
  callω_runv fns (af := af48) rfl rfl rfl rfl hl h
theorem runv28 {vs : List AV} {h0 : H} (hl : vs.length ≤ 5) {v : AV} (h : GoC fns (fun e => Run (xends [.tmp 2] e) fun q => noHeap h0.n q = some v) [] k28_1 ⟨fun j => (vs[j]?).getD .undef, fun _ => none, h0⟩) : callv fns 28 vs h0 = some v :=
  callω_runv fns (af := af28) rfl rfl rfl rfl hl h
theorem runv29 {vs : List AV} {h0 : H} (hl : vs.length ≤ 41) {v : AV} (h : GoC fns (fun e => Run (xends [.tmp 2] e) fun q => noHeap h0.n q = some v) [] k29_14 ⟨fun j => (vs[j]?).getD .undef, fun _ => none, h0⟩) : callv fns 29 vs h0 = some v :=
  callω_runv fns (af := af29) rfl rfl rfl rfl hl h
theorem runv8 {vs : List AV} {h0 : H} (hl : vs.length ≤ 15) {v : AV} (h : GoC fns (fun e => Run (xends [.tmp 2] e) fun q => noHeap h0.n q = some v) [] k8_1 ⟨fun j => (vs[j]?).getD .undef, fun _ => none, h0⟩) : callv fns 8 vs h0 = some v :=
  callω_runv fns (af := af8) rfl rfl rfl rfl hl h
theorem runv34 {vs : List AV} {h0 : H} (hl : vs.length ≤ 26) {v : AV} (h : GoC fns (fun e => Run (xends [.tmp 2] e) fun q => noHeap h0.n q = some v) [] k34_19 ⟨fun j => (vs[j]?).getD .undef, fun _ => none, h0⟩) : callv fns 34 vs h0 = some v :=
  callω_runv fns (af := af34) rfl rfl rfl rfl hl h
theorem runv26 {vs : List AV} {h0 : H} (hl : vs.length ≤ 14) {v : AV} (h : GoC fns (fun e => Run (xends [.tmp 4] e) fun q => noHeap h0.n q = some v) [] k26_2 ⟨fun j => (vs[j]?).getD .undef, fun _ => none, h0⟩) : callv fns 26 vs h0 = some v :=
  callω_runv fns (af := af26) rfl rfl rfl rfl hl h
theorem runv49 {vs : List AV} {h0 : H} (hl : vs.length ≤ 18) {v : AV} (h : GoC fns (fun e => Run (xends [.tmp 4] e) fun q => noHeap h0.n q = some v) [] k49_13 ⟨fun j => (vs[j]?).getD .undef, fun _ => none, h0⟩) : callv fns 49 vs h0 = some v :=
  callω_runv fns (af := af49) rfl rfl rfl rfl hl h
theorem runv51 {vs : List AV} {h0 : H} (hl : vs.length ≤ 19) {v : AV} (h : GoC fns (fun e => Run (xends [.tmp 4] e) fun q => noHeap h0.n q = some v) [] k51_1 ⟨fun j => (vs[j]?).getD .undef, fun _ => none, h0⟩) : callv fns 51 vs h0 = some v :=
  callω_runv fns (af := af51) rfl rfl rfl rfl hl h
theorem runv50 {vs : List AV} {h0 : H} (hl : vs.length ≤ 16) {v : AV} (h : GoC fns (fun e => Run (xends [.tmp 4] e) fun q => noHeap h0.n q = some v) [] k50_3 ⟨fun j => (vs[j]?).getD .undef, fun _ => none, h0⟩) : callv fns 50 vs h0 = some v :=
  callω_runv fns (af := af50) rfl rfl rfl rfl hl h
theorem runv30 {vs : List AV} {h0 : H} (hl : vs.length ≤ 148) {v : AV} (h : GoC fns (fun e => Run (xends [.tmp 2] e) fun q => noHeap h0.n q = some v) [] k30_73 ⟨fun j => (vs[j]?).getD .undef, fun _ => none, h0⟩) : callv fns 30 vs h0 = some v :=
  callω_runv fns (af := af30) rfl rfl rfl rfl hl h
theorem runv20 {vs : List AV} {h0 : H} (hl : vs.length ≤ 13) {v : AV} (h : GoC fns (fun e => Run (xends [.tmp 2] e) fun q => noHeap h0.n q = some v) [] k20_1 ⟨fun j => (vs[j]?).getD .undef, fun _ => none, h0⟩) : callv fns 20 vs h0 = some v :=
  callω_runv fns (af := af20) rfl rfl rfl rfl hl h
theorem runv35 {vs : List AV} {h0 : H} (hl : vs.length ≤ 29) {v : AV} (h : GoC fns (fun e => Run (xends [.tmp 2] e) fun q => noHeap h0.n q = some v) [] k35_16 ⟨fun j => (vs[j]?).getD .undef, fun _ => none, h0⟩) : callv fns 35 vs h0 = some v :=
  callω_runv fns (af := af35) rfl rfl rfl rfl hl h
theorem runv12 {vs : List AV} {h0 : H} (hl : vs.length ≤ 20) {v : AV} (h : GoC fns (fun e => Run (xends [.tmp 2, .tmp 3] e) fun q => noHeap h0.n q = some v) [] k12_5 ⟨fun j => (vs[j]?).getD .undef, fun _ => none, h0⟩) : callv fns 12 vs h0 = some v :=
  callω_runv fns (af := af12) rfl rfl rfl rfl hl h
theorem runv85 {vs : List AV} {h0 : H} (hl : vs.length ≤ 38) {v : AV} (h : GoC fns (fun e => Run (xends [.tmp 2, .tmp 3, .tmp 4] e) fun q => noHeap h0.n q = some v) [] k85_7 ⟨fun j => (vs[j]?).getD .undef, fun _ => none, h0⟩) : callv fns 85 vs h0 = some v :=
  callω_runv fns (af := af85) rfl rfl rfl rfl hl h
theorem runv71 {vs : List AV} {h0 : H} (hl : vs.length ≤ 20) {v : AV} (h : GoC fns (fun e => Run (xends [.tmp 2, .tmp 3, .tmp 4] e) fun q => noHeap h0.n q = some v) [] k71_6 ⟨fun j => (vs[j]?).getD .undef, fun _ => none, h0⟩) : callv fns 71 vs h0 = some v :=
  callω_runv fns (af := af71) rfl rfl rfl rfl hl h
theorem runv70 {vs : List AV} {h0 : H} (hl : vs.length ≤ 8) {v : AV} (h : GoC fns (fun e => Run (xends [.cell 4 true 2] e) fun q => noHeap h0.n q = some v) [] k70_1 ⟨fun j => (vs[j]?).getD .undef, fun _ => none, h0⟩) : callv fns 70 vs h0 = some v :=
  callω_runv fns (af := af70) rfl rfl rfl rfl hl h
theorem runv82 {vs : List AV} {h0 : H} (hl : vs.length ≤ 8) {v : AV} (h : GoC fns (fun e => Run (xends [.tmp 4] e) fun q => noHeap h0.n q = some v) [] k82_1 ⟨fun j => (vs[j]?).getD .undef, fun _ => none, h0⟩) : callv fns 82 vs h0 = some v :=
  callω_runv fns (af := af82) rfl rfl rfl rfl hl h
theorem runv84 {vs : List AV} {h0 : H} (hl : vs.length ≤ 94) {v : AV} (h : GoC fns (fun e => Run (xends [.tmp 4, .tmp 5] e) fun q => noHeap h0.n q = some v) [] k84_81 ⟨fun j => (vs[j]?).getD .undef, fun _ => none, h0⟩) : callv fns 84 vs h0 = some v :=
  callω_runv fns (af := af84) rfl rfl rfl rfl hl h
theorem runv72 {vs : List AV} {h0 : H} (hl : vs.length ≤ 63) {v : AV} (h : GoC fns (fun e => Run (xends [.tmp 2, .tmp 3, .tmp 4] e) fun q => noHeap h0.n q = some v) [] k72_31 ⟨fun j => (vs[j]?).getD .undef, fun _ => none, h0⟩) : callv fns 72 vs h0 = some v :=
  callω_runv fns (af := af72) rfl rfl rfl rfl hl h
theorem runv81 {vs : List AV} {h0 : H} (hl : vs.length ≤ 19) {v : AV} (h : GoC fns (fun e => Run (xends [.tmp 2, .tmp 3] e) fun q => noHeap h0.n q = some v) [] k81_10 ⟨fun j => (vs[j]?).getD .undef, fun _ => none, h0⟩) : callv fns 81 vs h0 = some v :=
  callω_runv fns (af := af81) rfl rfl rfl rfl hl h
theorem runv73 {vs : List AV} {h0 : H} (hl : vs.length ≤ 11) {v : AV} (h : GoC fns (fun e => Run (xends [.tmp 2] e) fun q => noHeap h0.n q = some v) [] k73_2 ⟨fun j => (vs[j]?).getD .undef, fun _ => none, h0⟩) : callv fns 73 vs h0 = some v :=
  callω_runv fns (af := af73) rfl rfl rfl rfl hl h
theorem runv69 {vs : List AV} {h0 : H} (hl : vs.length ≤ 31) {v : AV} (h : GoC fns (fun e => Run (xends [.tmp 4, .tmp 5, .tmp 6] e) fun q => noHeap h0.n q = some v) [] k69_6 ⟨fun j => (vs[j]?).getD .undef, fun _ => none, h0⟩) : callv fns 69 vs h0 = some v :=
  callω_runv fns (af := af69) rfl rfl rfl rfl hl h
theorem runv83 {vs : List AV} {h0 : H} (hl : vs.length ≤ 25) {v : AV} (h : GoC fns (fun e => Run (xends [.cell 4 true 2, .tmp 5, .tmp 6] e) fun q => noHeap h0.n q = some v) [] k83_6 ⟨fun j => (vs[j]?).getD .undef, fun _ => none, h0⟩) : callv fns 83 vs h0 = some v :=
  callω_runv fns (af := af83) rfl rfl rfl rfl hl h
theorem runv62 {vs : List AV} {h0 : H} (hl : vs.length ≤ 40) {v : AV} (h : GoC fns (fun e => Run (xends [.cell 2 true 2, .tmp 3] e) fun q => noHeap h0.n q = some v) [] k62_15 ⟨fun j => (vs[j]?).getD .undef, fun _ => none, h0⟩) : callv fns 62 vs h0 = some v :=
  callω_runv fns (af := af62) rfl rfl rfl rfl hl h
theorem runv74 {vs : List AV} {h0 : H} (hl : vs.length ≤ 11) {v : AV} (h : GoC fns (fun e => Run (xends [.cell 2 true 2] e) fun q => noHeap h0.n q = some v) [] k74_2 ⟨fun j => (vs[j]?).getD .undef, fun _ => none, h0⟩) : callv fns 74 vs h0 = some v :=
  callω_runv fns (af := af74) rfl rfl rfl rfl hl h
theorem runv90 {vs : List AV} {h0 : H} (hl : vs.length ≤ 32) {v : AV} (h : GoC fns (fun e => Run (xends [.tmp 2, .tmp 3, .tmp 4] e) fun q => noHeap h0.n q = some v) [] k90_14 ⟨fun j => (vs[j]?).getD .undef, fun _ => none, h0⟩) : callv fns 90 vs h0 = some v :=
  callω_runv fns (af := af90) rfl rfl rfl rfl hl h
theorem runv86 {vs : List AV} {h0 : H} (hl : vs.length ≤ 10) {v : AV} (h : GoC fns (fun e => Run (xends [.tmp 2, .tmp 3, .tmp 4] e) fun q => noHeap h0.n q = some v) [] k86_1 ⟨fun j => (vs[j]?).getD .undef, fun _ => none, h0⟩) : callv fns 86 vs h0 = some v :=
  callω_runv fns (af := af86) rfl rfl rfl rfl hl h
theorem runv75 {vs : List AV} {h0 : H} (hl : vs.length ≤ 29) {v : AV} (h : GoC fns (fun e => Run (xends [.tmp 2] e) fun q => noHeap h0.n q = some v) [] k75_10 ⟨fun j => (vs[j]?).getD .undef, fun _ => none, h0⟩) : callv fns 75 vs h0 = some v :=
  callω_runv fns (af := af75) rfl rfl rfl rfl hl h
theorem runv87 {vs : List AV} {h0 : H} (hl : vs.length ≤ 10) {v : AV} (h : GoC fns (fun e => Run (xends [.tmp 2, .tmp 3, .tmp 4] e) fun q => noHeap h0.n q = some v) [] k87_1 ⟨fun j => (vs[j]?).getD .undef, fun _ => none, h0⟩) : callv fns 87 vs h0 = some v :=
  callω_runv fns (af := af87) rfl rfl rfl rfl hl h
theorem runv76 {vs : List AV} {h0 : H} (hl : vs.length ≤ 29) {v : AV} (h : GoC fns (fun e => Run (xends [.tmp 2] e) fun q => noHeap h0.n q = some v) [] k76_10 ⟨fun j => (vs[j]?).getD .undef, fun _ => none, h0⟩) : callv fns 76 vs h0 = some v :=
  callω_runv fns (af := af76) rfl rfl rfl rfl hl h
theorem runv61 {vs : List AV} {h0 : H} (hl : vs.length ≤ 14) {v : AV} (h : GoC fns (fun e => Run (xends [.tmp 2, .tmp 3] e) fun q => noHeap h0.n q = some v) [] k61_2 ⟨fun j => (vs[j]?).getD .undef, fun _ => none, h0⟩) : callv fns 61 vs h0 = some v :=
  callω_runv fns (af := af61) rfl rfl rfl rfl hl h
theorem runv77 {vs : List AV} {h0 : H} (hl : vs.length ≤ 11) {v : AV} (h : GoC fns (fun e => Run (xends [.tmp 2] e) fun q => noHeap h0.n q = some v) [] k77_2 ⟨fun j => (vs[j]?).getD .undef, fun _ => none, h0⟩) : callv fns 77 vs h0 = some v :=
  callω_runv fns (af := af77) rfl rfl rfl rfl hl h
theorem runv55 {vs : List AV} {h0 : H} (hl : vs.length ≤ 113) {v : AV} (h : GoC fns (fun e => Run (xends [.cell 4 true 2, .tmp 5] e) fun q => noHeap h0.n q = some v) [] k55_53 ⟨fun j => (vs[j]?).getD .undef, fun _ => none, h0⟩) : callv fns 55 vs h0 = some v :=
  callω_runv fns (af := af55) rfl rfl rfl rfl hl h
theorem runv56 {vs : List AV} {h0 : H} (hl : vs.length ≤ 8) {v : AV} (h : GoC fns (fun e => Run (xends [.cell 2 true 2] e) fun q => noHeap h0.n q = some v) [] k56_1 ⟨fun j => (vs[j]?).getD .undef, fun _ => none, h0⟩) : callv fns 56 vs h0 = some v :=
  callω_runv fns (af := af56) rfl rfl rfl rfl hl h
theorem runv36 {vs : List AV} {h0 : H} (hl : vs.length ≤ 17) {v : AV} (h : GoC fns (fun e => Run (xends [.cell 4 true 2, .tmp 5] e) fun q => noHeap h0.n q = some v) [] k36_2 ⟨fun j => (vs[j]?).getD .undef, fun _ => none, h0⟩) : callv fns 36 vs h0 = some v :=
  callω_runv fns (af := af36) rfl rfl rfl rfl hl h
theorem runv40 {vs : List AV} {h0 : H} (hl : vs.length ≤ 5) {v : AV} (h : GoC fns (fun e => Run (xends [.tmp 2] e) fun q => noHeap h0.n q = some v) [] k40_1 ⟨fun j => (vs[j]?).getD .undef, fun _ => none, h0⟩) : callv fns 40 vs h0 = some v :=
  callω_runv fns (af := af40) rfl rfl rfl rfl hl h
theorem runv37 {vs : List AV} {h0 : H} (hl : vs.length ≤ 10) {v : AV} (h : GoC fns (fun e => Run (xends [.cell 2 true 2] e) fun q => noHeap h0.n q = some v) [] k37_1 ⟨fun j => (vs[j]?).getD .undef, fun _ => none, h0⟩) : callv fns 37 vs h0 = some v :=
  callω_runv fns (af := af37) rfl rfl rfl rfl hl h
theorem runv31 {vs : List AV} {h0 : H} (hl : vs.length ≤ 42) {v : AV} (h : GoC fns (fun e => Run (xends [.tmp 2] e) fun q => noHeap h0.n q = some v) [] k31_47 ⟨fun j => (vs[j]?).getD .undef, fun _ => none, h0⟩) : callv fns 31 vs h0 = some v :=
  callω_runv fns (af := af31) rfl rfl rfl rfl hl h
theorem runv14 {vs : List AV} {h0 : H} (hl : vs.length ≤ 18) {v : AV} (h : GoC fns (fun e => Run (xends [.cell 4 true 2, .tmp 5] e) fun q => noHeap h0.n q = some v) [] k14_2 ⟨fun j => (vs[j]?).getD .undef, fun _ => none, h0⟩) : callv fns 14 vs h0 = some v :=
  callω_runv fns (af := af14) rfl rfl rfl rfl hl h
theorem runv38 {vs : List AV} {h0 : H} (hl : vs.length ≤ 20) {v : AV} (h : GoC fns (fun e => Run (xends [.tmp 4] e) fun q => noHeap h0.n q = some v) [] k38_15 ⟨fun j => (vs[j]?).getD .undef, fun _ => none, h0⟩) : callv fns 38 vs h0 = some v :=
  callω_runv fns (af := af38) rfl rfl rfl rfl hl h
theorem runv15 {vs : List AV} {h0 : H} (hl : vs.length ≤ 43) {v : AV} (h : GoC fns (fun e => Run (xends [.cell 4 true 8, .tmp 5] e) fun q => noHeap h0.n q = some v) [] k15_23 ⟨fun j => (vs[j]?).getD .undef, fun _ => none, h0⟩) : callv fns 15 vs h0 = some v :=
  callω_runv fns (af := af15) rfl rfl rfl rfl hl h
theorem runv9 {vs : List AV} {h0 : H} (hl : vs.length ≤ 8) {v : AV} (h : GoC fns (fun e => Run (xends [.cell 2 true 2] e) fun q => noHeap h0.n q = some v) [] k9_1 ⟨fun j => (vs[j]?).getD .undef, fun _ => none, h0⟩) : callv fns 9 vs h0 = some v :=
  callω_runv fns (af := af9) rfl rfl rfl rfl hl h
theorem runv16 {vs : List AV} {h0 : H} (hl : vs.length ≤ 19) {v : AV} (h : GoC fns (fun e => Run (xends [.tmp 4] e) fun q => noHeap h0.n q = some v) [] k16_1 ⟨fun j => (vs[j]?).getD .undef, fun _ => none, h0⟩) : callv fns 16 vs h0 = some v :=
  callω_runv fns (af := af16) rfl rfl rfl rfl hl h
theorem runv4 {vs : List AV} {h0 : H} (hl : vs.length ≤ 74) {v : AV} (h : GoC fns (fun e => Run (xends [.tmp 4] e) fun q => noHeap h0.n q = some v) [] k4_30 ⟨fun j => (vs[j]?).getD .undef, fun _ => none, h0⟩) : callv fns 4 vs h0 = some v :=
  callω_runv fns (af := af4) rfl rfl rfl rfl hl h
theorem runv54 {vs : List AV} {h0 : H} (hl : vs.length ≤ 23) {v : AV} (h : GoC fns (fun e => Run (xends [.tmp 2] e) fun q => noHeap h0.n q = some v) [] k54_6 ⟨fun j => (vs[j]?).getD .undef, fun _ => none, h0⟩) : callv fns 54 vs h0 = some v :=
  callω_runv fns (af := af54) rfl rfl rfl rfl hl h
theorem runv63 {vs : List AV} {h0 : H} (hl : vs.length ≤ 23) {v : AV} (h : GoC fns (fun e => Run (xends [.tmp 2] e) fun q => noHeap h0.n q = some v) [] k63_10 ⟨fun j => (vs[j]?).getD .undef, fun _ => none, h0⟩) : callv fns 63 vs h0 = some v :=
  callω_runv fns (af := af63) rfl rfl rfl rfl hl h
theorem runv57 {vs : List AV} {h0 : H} (hl : vs.length ≤ 55) {v : AV} (h : GoC fns (fun e => Run (xends [.tmp 2, .tmp 3] e) fun q => noHeap h0.n q = some v) [] k57_29 ⟨fun j => (vs[j]?).getD .undef, fun _ => none, h0⟩) : callv fns 57 vs h0 = some v :=
  callω_runv fns (af := af57) rfl rfl rfl rfl hl h
theorem runv39 {vs : List AV} {h0 : H} (hl : vs.length ≤ 37) {v : AV} (h : GoC fns (fun e => Run (xends [.tmp 2, .tmp 3] e) fun q => noHeap h0.n q = some v) [] k39_25 ⟨fun j => (vs[j]?).getD .undef, fun _ => none, h0⟩) : callv fns 39 vs h0 = some v :=
  callω_runv fns (af := af39) rfl rfl rfl rfl hl h
theorem runv17 {vs : List AV} {h0 : H} (hl : vs.length ≤ 29) {v : AV} (h : GoC fns (fun e => Run (xends [.tmp 2, .tmp 3] e) fun q => noHeap h0.n q = some v) [] k17_16 ⟨fun j => (vs[j]?).getD .undef, fun _ => none, h0⟩) : callv fns 17 vs h0 = some v :=
  callω_runv fns (af := af17) rfl rfl rfl rfl hl h
theorem runv78 {vs : List AV} {h0 : H} (hl : vs.length ≤ 57) {v : AV} (h : GoC fns (fun e => Run (xends [.tmp 2, .tmp 3] e) fun q => noHeap h0.n q = some v) [] k78_29 ⟨fun j => (vs[j]?).getD .undef, fun _ => none, h0⟩) : callv fns 78 vs h0 = some v :=
  callω_runv fns (af := af78) rfl rfl rfl rfl hl h
theorem runv58 {vs : List AV} {h0 : H} (hl : vs.length ≤ 8) {v : AV} (h : GoC fns (fun e => Run (xends [.tmp 2, .tmp 3] e) fun q => noHeap h0.n q = some v) [] k58_1 ⟨fun j => (vs[j]?).getD .undef, fun _ => none, h0⟩) : callv fns 58 vs h0 = some v :=
  callω_runv fns (af := af58) rfl rfl rfl rfl hl h
theorem runv41 {vs : List AV} {h0 : H} (hl : vs.length ≤ 31) {v : AV} (h : GoC fns (fun e => Run (xends [.tmp 2, .tmp 3] e) fun q => noHeap h0.n q = some v) [] k41_16 ⟨fun j => (vs[j]?).getD .undef, fun _ => none, h0⟩) : callv fns 41 vs h0 = some v :=
  callω_runv fns (af := af41) rfl rfl rfl rfl hl h
theorem runv42 {vs : List AV} {h0 : H} (hl : vs.length ≤ 19) {v : AV} (h : GoC fns (fun e => Run (xends [.tmp 2] e) fun q => noHeap h0.n q = some v) [] k42_15 ⟨fun j => (vs[j]?).getD .undef, fun _ => none, h0⟩) : callv fns 42 vs h0 = some v :=
  callω_runv fns (af := af42) rfl rfl rfl rfl hl h
theorem runv18 {vs : List AV} {h0 : H} (hl : vs.length ≤ 15) {v : AV} (h : GoC fns (fun e => Run (xends [.tmp 2, .tmp 3] e) fun q => noHeap h0.n q = some v) [] k18_2 ⟨fun j => (vs[j]?).getD .undef, fun _ => none, h0⟩) : callv fns 18 vs h0 = some v :=
  callω_runv fns (af := af18) rfl rfl rfl rfl hl h
theorem runv88 {vs : List AV} {h0 : H} (hl : vs.length ≤ 10) {v : AV} (h : GoC fns (fun e => Run (xends [.tmp 6] e) fun q => noHeap h0.n q = some v) [] k88_1 ⟨fun j => (vs[j]?).getD .undef, fun _ => none, h0⟩) : callv fns 88 vs h0 = some v :=
  callω_runv fns (af := af88) rfl rfl rfl rfl hl h
theorem runv79 {vs : List AV} {h0 : H} (hl : vs.length ≤ 8) {v : AV} (h : GoC fns (fun e => Run (xends [.tmp 4] e) fun q => noHeap h0.n q = some v) [] k79_1 ⟨fun j => (vs[j]?).getD .undef, fun _ => none, h0⟩) : callv fns 79 vs h0 = some v :=
  callω_runv fns (af := af79) rfl rfl rfl rfl hl h
theorem runv59 {vs : List AV} {h0 : H} (hl : vs.length ≤ 76) {v : AV} (h : GoC fns (fun e => Run (xends [.tmp 2] e) fun q => noHeap h0.n q = some v) [] k59_42 ⟨fun j => (vs[j]?).getD .undef, fun _ => none, h0⟩) : callv fns 59 vs h0 = some v :=
  callω_runv fns (af := af59) rfl rfl rfl rfl hl h
theorem runv43 {vs : List AV} {h0 : H} (hl : vs.length ≤ 5) {v : AV} (h : GoC fns (fun e => Run (xends [.tmp 2] e) fun q => noHeap h0.n q = some v) [] k43_1 ⟨fun j => (vs[j]?).getD .undef, fun _ => none, h0⟩) : callv fns 43 vs h0 = some v :=
  callω_runv fns (af := af43) rfl rfl rfl rfl hl h
theorem runv19 {vs : List AV} {h0 : H} (hl : vs.length ≤ 6) {v : AV} (h : GoC fns (fun e => Run (xends [.tmp 2] e) fun q => noHeap h0.n q = some v) [] k19_1 ⟨fun j => (vs[j]?).getD .undef, fun _ => none, h0⟩) : callv fns 19 vs h0 = some v :=
  callω_runv fns (af := af19) rfl rfl rfl rfl hl h
theorem runv80 {vs : List AV} {h0 : H} (hl : vs.length ≤ 51) {v : AV} (h : GoC fns (fun e => Run (xends [.tmp 4, .tmp 5] e) fun q => noHeap h0.n q = some v) [] k80_28 ⟨fun j => (vs[j]?).getD .undef, fun _ => none, h0⟩) : callv fns 80 vs h0 = some v :=
  callω_runv fns (af := af80) rfl rfl rfl rfl hl h
theorem runv60 {vs : List AV} {h0 : H} (hl : vs.length ≤ 11) {v : AV} (h : GoC fns (fun e => Run (xends [.tmp 4, .tmp 5] e) fun q => noHeap h0.n q = some v) [] k60_1 ⟨fun j => (vs[j]?).getD .undef, fun _ => none, h0⟩) : callv fns 60 vs h0 = some v :=
  callω_runv fns (af := af60) rfl rfl rfl rfl hl h
theorem runv44 {vs : List AV} {h0 : H} (hl : vs.length ≤ 16) {v : AV} (h : GoC fns (fun e => Run (xends [.tmp 4, .tmp 5] e) fun q => noHeap h0.n q = some v) [] k44_2 ⟨fun j => (vs[j]?).getD .undef, fun _ => none, h0⟩) : callv fns 44 vs h0 = some v :=
  callω_runv fns (af := af44) rfl rfl rfl rfl hl h
theorem runv21 {vs : List AV} {h0 : H} (hl : vs.length ≤ 19) {v : AV} (h : GoC fns (fun e => Run (xends [.tmp 4, .tmp 5] e) fun q => noHeap h0.n q = some v) [] k21_2 ⟨fun j => (vs[j]?).getD .undef, fun _ => none, h0⟩) : callv fns 21 vs h0 = some v :=
  callω_runv fns (af := af21) rfl rfl rfl rfl hl h
theorem runv5 {vs : List AV} {h0 : H} (hl : vs.length ≤ 123) {v : AV} (h : GoC fns (fun e => Run (xends [.tmp 2] e) fun q => noHeap h0.n q = some v) [] k5_33 ⟨fun j => (vs[j]?).getD .undef, fun _ => none, h0⟩) : callv fns 5 vs h0 = some v :=
  callω_runv fns (af := af5) rfl rfl rfl rfl hl h
theorem runv22 {vs : List AV} {h0 : H} (hl : vs.length ≤ 31) {v : AV} (h : GoC fns (fun e => Run (xends [.tmp 2, .tmp 3] e) fun q => noHeap h0.n q = some v) [] k22_5 ⟨fun j => (vs[j]?).getD .undef, fun _ => none, h0⟩) : callv fns 22 vs h0 = some v :=
  callω_runv fns (af := af22) rfl rfl rfl rfl hl h
theorem runv45 {vs : List AV} {h0 : H} (hl : vs.length ≤ 8) {v : AV} (h : GoC fns (fun e => Run (xends [.tmp 2, .tmp 3] e) fun q => noHeap h0.n q = some v) [] k45_1 ⟨fun j => (vs[j]?).getD .undef, fun _ => none, h0⟩) : callv fns 45 vs h0 = some v :=
  callω_runv fns (af := af45) rfl rfl rfl rfl hl h
theorem runv23 {vs : List AV} {h0 : H} (hl : vs.length ≤ 14) {v : AV} (h : GoC fns (fun e => Run (xends [.tmp 2, .tmp 3] e) fun q => noHeap h0.n q = some v) [] k23_2 ⟨fun j => (vs[j]?).getD .undef, fun _ => none, h0⟩) : callv fns 23 vs h0 = some v :=
  callω_runv fns (af := af23) rfl rfl rfl rfl hl h
theorem runv46 {vs : List AV} {h0 : H} (hl : vs.length ≤ 14) {v : AV} (h : GoC fns (fun e => Run (xends [.cell 2 true 2, .tmp 3] e) fun q => noHeap h0.n q = some v) [] k46_2 ⟨fun j => (vs[j]?).getD .undef, fun _ => none, h0⟩) : callv fns 46 vs h0 = some v :=
  callω_runv fns (af := af46) rfl rfl rfl rfl hl h
theorem runv24 {vs : List AV} {h0 : H} (hl : vs.length ≤ 15) {v : AV} (h : GoC fns (fun e => Run (xends [.cell 2 true 2, .tmp 3] e) fun q => noHeap h0.n q = some v) [] k24_2 ⟨fun j => (vs[j]?).getD .undef, fun _ => none, h0⟩) : callv fns 24 vs h0 = some v :=
  callω_runv fns (af := af24) rfl rfl rfl rfl hl h
theorem runv47 {vs : List AV} {h0 : H} (hl : vs.length ≤ 5) {v : AV} (h : GoC fns (fun e => Run (xends [.tmp 2] e) fun q => noHeap h0.n q = some v) [] k47_1 ⟨fun j => (vs[j]?).getD .undef, fun _ => none, h0⟩) : callv fns 47 vs h0 = some v :=
  callω_runv fns (af := af47) rfl rfl rfl rfl hl h
theorem runv25 {vs : List AV} {h0 : H} (hl : vs.length ≤ 6) {v : AV} (h : GoC fns (fun e => Run (xends [.tmp 2] e) fun q => noHeap h0.n q = some v) [] k25_1 ⟨fun j => (vs[j]?).getD .undef, fun _ => none, h0⟩) : callv fns 25 vs h0 = some v :=
  callω_runv fns (af := af25) rfl rfl rfl rfl hl h
theorem runv6 {vs : List AV} {h0 : H} (hl : vs.length ≤ 179) {v : AV} (h : GoC fns (fun e => Run (xends [.tmp 2] e) fun q => noHeap h0.n q = some v) [] k6_39 ⟨fun j => (vs[j]?).getD .undef, fun _ => none, h0⟩) : callv fns 6 vs h0 = some v :=
  callω_runv fns (af := af6) rfl rfl rfl rfl hl h
theorem runv32 {vs : List AV} {h0 : H} (hl : vs.length ≤ 9) {v : AV} (h : GoC fns (fun e => Run (xends [.cell 2 true 2] e) fun q => noHeap h0.n q = some v) [] k32_1 ⟨fun j => (vs[j]?).getD .undef, fun _ => none, h0⟩) : callv fns 32 vs h0 = some v :=
  callω_runv fns (af := af32) rfl rfl rfl rfl hl h
theorem runv53 {vs : List AV} {h0 : H} (hl : vs.length ≤ 8) {v : AV} (h : GoC fns (fun e => Run (xends [.cell 2 true 2] e) fun q => noHeap h0.n q = some v) [] k53_1 ⟨fun j => (vs[j]?).getD .undef, fun _ => none, h0⟩) : callv fns 53 vs h0 = some v :=
  callω_runv fns (af := af53) rfl rfl rfl rfl hl h
theorem runv33 {vs : List AV} {h0 : H} (hl : vs.length ≤ 6) {v : AV} (h : GoC fns (fun e => Run (xends [.tmp 2] e) fun q => noHeap h0.n q = some v) [] k33_1 ⟨fun j => (vs[j]?).getD .undef, fun _ => none, h0⟩) : callv fns 33 vs h0 = some v :=
  callω_runv fns (af := af33) rfl rfl rfl rfl hl h
theorem runv10 {vs : List AV} {h0 : H} (hl : vs.length ≤ 7) {v : AV} (h : GoC fns (fun e => Run (xends [.tmp 2] e) fun q => noHeap h0.n q = some v) [] k10_1 ⟨fun j => (vs[j]?).getD .undef, fun _ => none, h0⟩) : callv fns 10 vs h0 = some v :=
  callω_runv fns (af := af10) rfl rfl rfl rfl hl h
theorem runv3 {vs : List AV} {h0 : H} (hl : vs.length ≤ 37) {v : AV} (h : GoC fns (fun e => Run (xends [.tmp 4] e) fun q => noHeap h0.n q = some v) [] k3_14 ⟨fun j => (vs[j]?).getD .undef, fun _ => none, h0⟩) : callv fns 3 vs h0 = some v :=
  callω_runv fns (af := af3) rfl rfl rfl rfl hl h
def OkF (f : FuncId) (af : AFunc) : Prop := ∃ fn, Tryd.prog.funcs[f]? = some fn ∧ (fn.name == "runtime.NumGoroutine") = false ∧ (∃ hs, pFunc Tryd.prog sg hs fn = some ⟨af.n, af.code, af.res, fun _ => none⟩) ∧ XOk Tryd.prog f af.x
def OkL : List (FuncId × AFunc) → Prop
  | [] => True
  | (f, af) :: r => OkF f af ∧ OkL r
theorem okL_lookup : ∀ {l : List (FuncId × AFunc)} {f : FuncId} {af : AFunc}, OkL l → l.lookup f = some af → OkF f af
  | [], _, _, _, h => by cases h
  | (g, ag) :: r, f, af, hl, h => by
    rw [List.lookup_cons] at h
    split at h
    · rename_i hb; injection h with h; subst h; have := beq_iff_eq.1 hb; subst this; exact hl.1
    · exact okL_lookup hl.2 h
theorem fnsOk : FnsOk Tryd.prog sg fns := fun f af h => okL_lookup (l := fnsL) ⟨⟨Tryd.f7, Tryd.func7, by kernel_rfl, ok7, xok_none _ _⟩, ⟨Tryd.f11, Tryd.func11, by kernel_rfl, ok11, xok_none _ _⟩, ⟨Tryd.f27, Tryd.func27, by kernel_rfl, ok27, xok_none _ _⟩, ⟨Tryd.f64, Tryd.func64, by kernel_rfl, ok64, xok_none _ _⟩, ⟨Tryd.f65, Tryd.func65, by kernel_rfl, ok65, xok_none _ _⟩, ⟨Tryd.f13, Tryd.func13, by kernel_rfl, ok13, xok_none _ _⟩, ⟨Tryd.f66, Tryd.func66, by kernel_rfl, ok66, xok_none _ _⟩, ⟨Tryd.f48, Tryd.func48, by kernel_rfl, ok48, xok_none _ _⟩, ⟨Tryd.f28, Tryd.func28, by kernel_rfl, ok28, xok_none _ _⟩, ⟨Tryd.f29, Tryd.func29, by kernel_rfl, ok29, xok_none _ _⟩, ⟨Tryd.f8, Tryd.func8, by kernel_rfl, ok8, xok_none _ _⟩, ⟨Tryd.f34, Tryd.func34, by kernel_rfl, ok34, xok_none _ _⟩, ⟨Tryd.f26, Tryd.func26, by kernel_rfl, ok26, xok_none _ _⟩, ⟨Tryd.f49, Tryd.func49, by kernel_rfl, ok49, xok_none _ _⟩, ⟨Tryd.f51, Tryd.func51, by kernel_rfl, ok51, xok_none _ _⟩, ⟨Tryd.f50, Tryd.func50, by kernel_rfl, ok50, xok_none _ _⟩, ⟨Tryd.f30, Tryd.func30, by kernel_rfl, ok30, xok_none _ _⟩, ⟨Tryd.f20, Tryd.func20, by kernel_rfl, ok20, xok_none _ _⟩, ⟨Tryd.f35, Tryd.func35, by kernel_rfl, ok35, xok_none _ _⟩, ⟨Tryd.f12, Tryd.func12, by kernel_rfl, ok12, xok_none _ _⟩, ⟨Tryd.f85, Tryd.func85, by kernel_rfl, ok85, xok_none _ _⟩, ⟨Tryd.f71, Tryd.func71, by kernel_rfl, ok71, xok_none _ _⟩, ⟨Tryd.f70, Tryd.func70, by kernel_rfl, ok70, xok_none _ _⟩, ⟨Tryd.f82, Tryd.func82, by kernel_rfl, ok82, xok_none _ _⟩, ⟨Tryd.f84, Tryd.func84, by kernel_rfl, ok84, xok_none _ _⟩, ⟨Tryd.f72, Tryd.func72, by kernel_rfl, ok72, xok_none _ _⟩, ⟨Tryd.f81, Tryd.func81, by kernel_rfl, ok81, xok_none _ _⟩, ⟨Tryd.f73, Tryd.func73, by kernel_rfl, ok73, xok_none _ _⟩, ⟨Tryd.f69, Tryd.func69, by kernel_rfl, ok69, xok_none _ _⟩, ⟨Tryd.f83, Tryd.func83, by kernel_rfl, ok83, xok_none _ _⟩, ⟨Tryd.f62, Tryd.func62, by kernel_rfl, ok62, xok_none _ _⟩, ⟨Tryd.f74, Tryd.func74, by kernel_rfl, ok74, xok_none _ _⟩, ⟨Tryd.f90, Tryd.func90, by kernel_rfl, ok90, xok_none _ _⟩, ⟨Tryd.f86, Tryd.func86, by kernel_rfl, ok86, xok_none _ _⟩, ⟨Tryd.f75, Tryd.func75, by kernel_rfl, ok75, xok_none _ _⟩, ⟨Tryd.f87, Tryd.func87, by kernel_rfl, ok87, xok_none _ _⟩, ⟨Tryd.f76, Tryd.func76, by kernel_rfl, ok76, xok_none _ _⟩, ⟨Tryd.f61, Tryd.func61, by kernel_rfl, ok61, xok_none _ _⟩, ⟨Tryd.f77, Tryd.func77, by kernel_rfl, ok77, xok_none _ _⟩, ⟨Tryd.f55, Tryd.func55, by kernel_rfl, ok55, xok_none _ _⟩, ⟨Tryd.f56, Tryd.func56, by kernel_rfl, ok56, xok_none _ _⟩, ⟨Tryd.f36, Tryd.func36, by kernel_rfl, ok36, xok_none _ _⟩, ⟨Tryd.f40, Tryd.func40, by kernel_rfl, ok40, xok_none _ _⟩, ⟨Tryd.f37, Tryd.func37, by kernel_rfl, ok37, xok_none _ _⟩, ⟨Tryd.f52, Tryd.func52, by kernel_rfl, ok52, xok_is⟩, ⟨Tryd.f31, Tryd.func31, by kernel_rfl, ok31, xok_none _ _⟩, ⟨Tryd.f14, Tryd.func14, by kernel_rfl, ok14, xok_none _ _⟩, ⟨Tryd.f38, Tryd.func38, by kernel_rfl, ok38, xok_none _ _⟩, ⟨Tryd.f15, Tryd.func15, by kernel_rfl, ok15, xok_none _ _⟩, ⟨Tryd.f9, Tryd.func9, by kernel_rfl, ok9, xok_none _ _⟩, ⟨Tryd.f16, Tryd.func16, by kernel_rfl, ok16, xok_none _ _⟩, ⟨Tryd.f4, Tryd.func4, by kernel_rfl, ok4, xok_none _ _⟩, ⟨Tryd.f54, Tryd.func54, by kernel_rfl, ok54, xok_none _ _⟩, ⟨Tryd.f63, Tryd.func63, by kernel_rfl, ok63, xok_none _ _⟩, ⟨Tryd.f57, Tryd.func57, by kernel_rfl, ok57, xok_none _ _⟩, ⟨Tryd.f39, Tryd.func39, by kernel_rfl, ok39, xok_none _ _⟩, ⟨Tryd.f17, Tryd.func17, by kernel_rfl, ok17, xok_none _ _⟩, ⟨Tryd.f78, Tryd.func78, by kernel_rfl, ok78, xok_none _ _⟩, ⟨Tryd.f58, Tryd.func58, by kernel_rfl, ok58, xok_none _ _⟩, ⟨Tryd.f41, Tryd.func41, by kernel_rfl, ok41, xok_none _ _⟩, ⟨Tryd.f42, Tryd.func42, by kernel_rfl, ok42, xok_none _ _⟩, ⟨Tryd.f18, Tryd.func18, by kernel_rfl, ok18, xok_none _ _⟩, ⟨Tryd.f88, Tryd.func88, by kernel_rfl, ok88, xok_none _ _⟩, ⟨Tryd.f79, Tryd.func79, by kernel_rfl, ok79, xok_none _ _⟩, ⟨Tryd.f59, Tryd.func59, by kernel_rfl, ok59, xok_none _ _⟩, ⟨Tryd.f43, Tryd.func43, by kernel_rfl, ok43, xok_none _ _⟩, ⟨Tryd.f19, Tryd.func19, by kernel_rfl, ok19, xok_none _ _⟩, ⟨Tryd.f80, Tryd.func80, by kernel_rfl, ok80, xok_none _ _⟩, ⟨Tryd.f60, Tryd.func60, by kernel_rfl, ok60, xok_none _ _⟩, ⟨Tryd.f44, Tryd.func44, by kernel_rfl, ok44, xok_none _ _⟩, ⟨Tryd.f21, Tryd.func21, by kernel_rfl, ok21, xok_none _ _⟩, ⟨Tryd.f5, Tryd.func5, by kernel_rfl, ok5, xok_none _ _⟩, ⟨Tryd.f22, Tryd.func22, by kernel_rfl, ok22, xok_none _ _⟩, ⟨Tryd.f45, Tryd.func45, by kernel_rfl, ok45, xok_none _ _⟩, ⟨Tryd.f23, Tryd.func23, by kernel_rfl, ok23, xok_none _ _⟩, ⟨Tryd.f46, Tryd.func46, by kernel_rfl, ok46, xok_none _ _⟩, ⟨Tryd.f24, Tryd.func24, by kernel_rfl, ok24, xok_none _ _⟩, ⟨Tryd.f47, Tryd.func47, by kernel_rfl, ok47, xok_none _ _⟩, ⟨Tryd.f25, Tryd.func25, by kernel_rfl, ok25, xok_none _ _⟩, ⟨Tryd.f6, Tryd.func6, by kernel_rfl, ok6, xok_none _ _⟩, ⟨Tryd.f32, Tryd.func32, by kernel_rfl, ok32, xok_none _ _⟩, ⟨Tryd.f53, Tryd.func53, by kernel_rfl, ok53, xok_none _ _⟩, ⟨Tryd.f33, Tryd.func33, by kernel_rfl, ok33, xok_none _ _⟩, ⟨Tryd.f10, Tryd.func10, by kernel_rfl, ok10, xok_none _ _⟩, ⟨Tryd.f3, Tryd.func3, by kernel_rfl, ok3, xok_none _ _⟩, trivial⟩ h
end Go.Proofs.YtdnfnobgeddbfaaDoor.Abs
