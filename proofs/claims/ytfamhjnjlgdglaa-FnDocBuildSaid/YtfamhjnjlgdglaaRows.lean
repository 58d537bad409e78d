/-
  NARROWER THAN 'FOR EVERY INPUT', by the rows' own cells (each row's printed sentence says how): FnDocReadDocument: loops · FnDocBuild: loops.
  DERIVED. THE GIVEN ROWS OF THIS SEAT. 5 by the template 'for every input the law returns true; each argument reads behind the call as it read before'; 0 by the template 'total and deterministic' (their statements: YtfamhjnjlgdglaaTotals.lean).
  GIVEN WITH THE SEED: the statements are not yours to turn. If you find one false, say at which input.
  Laid BY PROGRAM, IN A SANDBOX (cutbox-rows.mjs): the forced cells as the released guide's own fill.sh prints them over the translation 963000bf87d45c79… (all of the seat's roots in one cut). By AI agents, Wed Nov 11 2026. No macro, syntax, notation, axiom, sorry.
-/
import Derived.Test.YtfamhjnjlgdglaaChecked
import GoSem.Claim
import GoSem.ClaimJoined
import GoSem.ClaimMapViews
import Derived.JoinedTies
import Derived.KernelRfl
namespace Go.Proofs.Ytfamhjnjlgdglaa
/- THE CELL 'sum', in the pinned program and in every row, IS THE sha256 OF THE DUMP (.gsa) THAT YtfamhjnjlgdglaaProg.lean LOADS. Nothing in Lean hashes anything: it is a label: what it is worth is what the hold of that sum in a sandbox is worth. -/
noncomputable def Try.pinned : Pinned := { name := "ytfamhjnjlgdglaa", sum := "963000bf87d45c79cd00dbdd1504a1117579b8261035a1e8c79c3d05349d1289", checked := Try.checked }
namespace Rows
def none {H : Type} : Left H := { results := [], args := [] }

/-- 'laws.FnBindEqual': WHATEVER THE INPUT: true; the input reads as it did. -/
def fnBindEqualSpec : ChangeSpec := { name := "fnBindEqual", fn := fun _ => fun
  | [d1, d2] => { results := [.lit (.bool true)], args := [d1, d2] }
  | _ => none }
def fnBindEqualRow : OpenClaim := { program := "ytfamhjnjlgdglaa", sum := "963000bf87d45c79cd00dbdd1504a1117579b8261035a1e8c79c3d05349d1289", func := "pub-gunnysack/laws.FnBindEqual", spec := "fnBindEqual", apart := false }
def FnBindEqualSaid : Prop := fnBindEqualRow.holds Try.pinned (OpenSpec.ofChange fnBindEqualSpec)

/-- ITS FALSE NEIGHBOUR: 'it returns false'. Refute it at one input. -/
def fnBindEqualWrong : ChangeSpec := { name := "fnBindEqual", fn := fun _ => fun
  | [d1, d2] => { results := [.lit (.bool false)], args := [d1, d2] }
  | _ => none }
def FnBindEqualWrongFalsely : Prop := fnBindEqualRow.holds Try.pinned (OpenSpec.ofChange fnBindEqualWrong)

/-- 'laws.FnDocReserve': WHATEVER THE INPUT: true; the input reads as it did. -/
def fnDocReserveSpec : ChangeSpec := { name := "fnDocReserve", fn := fun _ => fun
  | [d1, d2, d3] => { results := [.lit (.bool true)], args := [d1, d2, d3] }
  | _ => none }
def fnDocReserveRow : OpenClaim := { program := "ytfamhjnjlgdglaa", sum := "963000bf87d45c79cd00dbdd1504a1117579b8261035a1e8c79c3d05349d1289", func := "pub-gunnysack/laws.FnDocReserve", spec := "fnDocReserve", named := ["encoding/binary.LittleEndian"], apart := false }
def FnDocReserveSaid : Prop := fnDocReserveRow.holds Try.pinned (OpenSpec.ofChange fnDocReserveSpec)

/-- ITS FALSE NEIGHBOUR: 'it returns false'. Refute it at one input. -/
def fnDocReserveWrong : ChangeSpec := { name := "fnDocReserve", fn := fun _ => fun
  | [d1, d2, d3] => { results := [.lit (.bool false)], args := [d1, d2, d3] }
  | _ => none }
def FnDocReserveWrongFalsely : Prop := fnDocReserveRow.holds Try.pinned (OpenSpec.ofChange fnDocReserveWrong)

/-- 'laws.FnDocReadDocument': WHATEVER THE INPUT: true; the input reads as it did. -/
def fnDocReadDocumentSpec : ChangeSpec := { name := "fnDocReadDocument", fn := fun _ => fun
  | [d1, d2] => { results := [.lit (.bool true)], args := [d1, d2] }
  | _ => none }
def fnDocReadDocumentRow : OpenClaim := { program := "ytfamhjnjlgdglaa", sum := "963000bf87d45c79cd00dbdd1504a1117579b8261035a1e8c79c3d05349d1289", func := "pub-gunnysack/laws.FnDocReadDocument", spec := "fnDocReadDocument", recurses := true, loops := true, apart := false }
def FnDocReadDocumentSaid : Prop := fnDocReadDocumentRow.holds Try.pinned (OpenSpec.ofChange fnDocReadDocumentSpec)

/-- ITS FALSE NEIGHBOUR: 'it returns false'. Refute it at one input. -/
def fnDocReadDocumentWrong : ChangeSpec := { name := "fnDocReadDocument", fn := fun _ => fun
  | [d1, d2] => { results := [.lit (.bool false)], args := [d1, d2] }
  | _ => none }
def FnDocReadDocumentWrongFalsely : Prop := fnDocReadDocumentRow.holds Try.pinned (OpenSpec.ofChange fnDocReadDocumentWrong)

/-- 'laws.FnDocKindNames': WHATEVER THE INPUT: true; the input reads as it did. -/
def fnDocKindNamesSpec : ChangeSpec := { name := "fnDocKindNames", fn := fun _ => fun
  | [d1, d2] => { results := [.lit (.bool true)], args := [d1, d2] }
  | _ => none }
def fnDocKindNamesRow : OpenClaim := { program := "ytfamhjnjlgdglaa", sum := "963000bf87d45c79cd00dbdd1504a1117579b8261035a1e8c79c3d05349d1289", func := "pub-gunnysack/laws.FnDocKindNames", spec := "fnDocKindNames", apart := false }
def FnDocKindNamesSaid : Prop := fnDocKindNamesRow.holds Try.pinned (OpenSpec.ofChange fnDocKindNamesSpec)

/-- ITS FALSE NEIGHBOUR: 'it returns false'. Refute it at one input. -/
def fnDocKindNamesWrong : ChangeSpec := { name := "fnDocKindNames", fn := fun _ => fun
  | [d1, d2] => { results := [.lit (.bool false)], args := [d1, d2] }
  | _ => none }
def FnDocKindNamesWrongFalsely : Prop := fnDocKindNamesRow.holds Try.pinned (OpenSpec.ofChange fnDocKindNamesWrong)

/-- 'laws.FnDocBuild': WHATEVER THE INPUT: true; the input reads as it did. -/
def fnDocBuildSpec : ChangeSpec := { name := "fnDocBuild", fn := fun _ => fun
  | [d1, d2, d3] => { results := [.lit (.bool true)], args := [d1, d2, d3] }
  | _ => none }
def fnDocBuildRow : OpenClaim := { program := "ytfamhjnjlgdglaa", sum := "963000bf87d45c79cd00dbdd1504a1117579b8261035a1e8c79c3d05349d1289", func := "pub-gunnysack/laws.FnDocBuild", spec := "fnDocBuild", recurses := true, named := ["encoding/binary.LittleEndian"], loops := true, apart := false }
def FnDocBuildSaid : Prop := fnDocBuildRow.holds Try.pinned (OpenSpec.ofChange fnDocBuildSpec)

/-- ITS FALSE NEIGHBOUR: 'it returns false'. Refute it at one input. -/
def fnDocBuildWrong : ChangeSpec := { name := "fnDocBuild", fn := fun _ => fun
  | [d1, d2, d3] => { results := [.lit (.bool false)], args := [d1, d2, d3] }
  | _ => none }
def FnDocBuildWrongFalsely : Prop := fnDocBuildRow.holds Try.pinned (OpenSpec.ofChange fnDocBuildWrong)

/- THE SECOND FORM. 'bulk': how many values and letters a reading holds, each counted each time it is reached (what is shared counts as often as it is met; a slice's spare places count too). A statement '..UptoSaid' is the law's where the arguments, and the package variables that the reading takes, are together of bulk at most 1048576: NARROWER than '..Said'. Prove '..Said' where nothing that the law and all that it calls make is longer than what came in: it says more and counts as full. Else prove '..UptoSaid'. A law counts once. -/
mutual
def uptoBulk {H : Type} : DataW H → Nat
  | .lit (.string bytes) => bytes.length + 1
  | .lit _ => 1
  | .nil => 1
  | .ptr d => uptoBulk d + 1
  | .slice elems spare => uptoBulkAll elems + uptoBulkAll spare + 1
  | .agg parts => uptoBulkAll parts + 1
  | .iface _ d => uptoBulk d + 1
  | .map entries => uptoBulkEntries entries + 1
  | .held _ => 1
def uptoBulkAll {H : Type} : List (DataW H) → Nat
  | [] => 0
  | d :: r => uptoBulk d + uptoBulkAll r
def uptoBulkEntries {H : Type} : List (Lit × DataW H) → Nat
  | [] => 0
  | x :: r => uptoBulkEntry x + uptoBulkEntries r
def uptoBulkEntry {H : Type} : Lit × DataW H → Nat
  | (.string bytes, d) => bytes.length + uptoBulk d + 1
  | (_, d) => uptoBulk d + 1
 end
def uptoSmall : (H : Type) → List (DataW H) → Bool := fun _ ds => decide (uptoBulkAll ds ≤ 1048576)
def OpenSpec.upto (s : _root_.Go.ChangeSpec) : _root_.Go.OpenSpec := { _root_.Go.OpenSpec.ofChange s with cond := some uptoSmall }

/-- 'laws.FnBindEqual', WHERE WHAT IT READS IS OF BULK AT MOST 1048576: true; the input reads as it did. -/
def fnBindEqualUptoRow : OpenClaim := { program := "ytfamhjnjlgdglaa", sum := "963000bf87d45c79cd00dbdd1504a1117579b8261035a1e8c79c3d05349d1289", func := "pub-gunnysack/laws.FnBindEqual", spec := "fnBindEqual", apart := false, narrowed := true }
def FnBindEqualUptoSaid : Prop := fnBindEqualUptoRow.holds Try.pinned (OpenSpec.upto fnBindEqualSpec)

/-- 'laws.FnDocReserve', WHERE WHAT IT READS IS OF BULK AT MOST 1048576: true; the input reads as it did. -/
def fnDocReserveUptoRow : OpenClaim := { program := "ytfamhjnjlgdglaa", sum := "963000bf87d45c79cd00dbdd1504a1117579b8261035a1e8c79c3d05349d1289", func := "pub-gunnysack/laws.FnDocReserve", spec := "fnDocReserve", named := ["encoding/binary.LittleEndian"], apart := false, narrowed := true }
def FnDocReserveUptoSaid : Prop := fnDocReserveUptoRow.holds Try.pinned (OpenSpec.upto fnDocReserveSpec)

/-- 'laws.FnDocReadDocument', WHERE WHAT IT READS IS OF BULK AT MOST 1048576: true; the input reads as it did. -/
def fnDocReadDocumentUptoRow : OpenClaim := { program := "ytfamhjnjlgdglaa", sum := "963000bf87d45c79cd00dbdd1504a1117579b8261035a1e8c79c3d05349d1289", func := "pub-gunnysack/laws.FnDocReadDocument", spec := "fnDocReadDocument", recurses := true, loops := true, apart := false, narrowed := true }
def FnDocReadDocumentUptoSaid : Prop := fnDocReadDocumentUptoRow.holds Try.pinned (OpenSpec.upto fnDocReadDocumentSpec)

/-- 'laws.FnDocKindNames', WHERE WHAT IT READS IS OF BULK AT MOST 1048576: true; the input reads as it did. -/
def fnDocKindNamesUptoRow : OpenClaim := { program := "ytfamhjnjlgdglaa", sum := "963000bf87d45c79cd00dbdd1504a1117579b8261035a1e8c79c3d05349d1289", func := "pub-gunnysack/laws.FnDocKindNames", spec := "fnDocKindNames", apart := false, narrowed := true }
def FnDocKindNamesUptoSaid : Prop := fnDocKindNamesUptoRow.holds Try.pinned (OpenSpec.upto fnDocKindNamesSpec)

/-- 'laws.FnDocBuild', WHERE WHAT IT READS IS OF BULK AT MOST 1048576: true; the input reads as it did. -/
def fnDocBuildUptoRow : OpenClaim := { program := "ytfamhjnjlgdglaa", sum := "963000bf87d45c79cd00dbdd1504a1117579b8261035a1e8c79c3d05349d1289", func := "pub-gunnysack/laws.FnDocBuild", spec := "fnDocBuild", recurses := true, named := ["encoding/binary.LittleEndian"], loops := true, apart := false, narrowed := true }
def FnDocBuildUptoSaid : Prop := fnDocBuildUptoRow.holds Try.pinned (OpenSpec.upto fnDocBuildSpec)

end Rows
end Go.Proofs.Ytfamhjnjlgdglaa
