/-
  NARROWER THAN 'FOR EVERY INPUT', by the rows' own cells (each row's printed sentence says how): FnVectorFloats: laid.
  DERIVED. THE GIVEN ROWS OF THIS SEAT. 1 by the template 'for every input the law returns true; each argument reads behind the call as it read before'; 0 by the template 'total and deterministic' (their statements: YtjlioidknhdceaaDoorTotals.lean).
  GIVEN WITH THE SEED: the statements are not yours to turn. If you find one false, say at which input.
  Laid BY PROGRAM, IN A SANDBOX (cutbox-rows.mjs): the forced cells as the released guide's own fill.sh prints them over the translation afbf2920b5a3507d… (all of the seat's roots in one cut). By AI agents, Wed Nov 11 2026. No macro, syntax, notation, axiom, sorry.
-/
import Derived.Test.YtjlioidknhdceaaDoorChecked
import GoSem.Claim
import GoSem.ClaimJoined
import GoSem.ClaimMapViews
import Derived.JoinedTies
import Derived.KernelRfl
namespace Go.Proofs.YtjlioidknhdceaaDoor
/- THE CELL 'sum', in the pinned program and in every row, IS THE sha256 OF THE DUMP (.gsa) THAT YtjlioidknhdceaaDoorProg.lean LOADS. Nothing in Lean hashes anything: it is a label: what it is worth is what the hold of that sum in a sandbox is worth. -/
noncomputable def Tryd.pinned : Pinned := { name := "ytjlioidknhdceaadoor", sum := "afbf2920b5a3507d9ca7a05b7590c2dc18ddaff475a49445ed620230f7584a6a", checked := Tryd.checked }
namespace Rows
def none {H : Type} : Left H := { results := [], args := [] }

/- WHAT THE LISTED PACKAGE-LEVEL VARIABLES READ AS WHEN THE CALL BEGINS. Each datum BY PROGRAM (the guide's laid-datum.mjs) off the statement by which the dump's own 'gosem.cut.vars' lays the variable. In a bare row this is a premise. The card (YtjlioidknhdceaaDoorCards.lean) ties it to the program's text. -/
def laid_pub_gunnysack_pub_bson_errInsufficientVectorData {H : Type} : DataW H := .iface "*errors.errorString" (.ptr (.agg [.lit (.string [105, 110, 115, 117, 102, 102, 105, 99, 105, 101, 110, 116, 32, 100, 97, 116, 97])]))
def laid_pub_gunnysack_pub_bson_errNonZeroVectorPadding {H : Type} : DataW H := .iface "*errors.errorString" (.ptr (.agg [.lit (.string [112, 97, 100, 100, 105, 110, 103, 32, 109, 117, 115, 116, 32, 98, 101, 32, 48])]))
def laid_pub_gunnysack_pub_bson_errVectorPaddingTooLarge {H : Type} : DataW H := .iface "*errors.errorString" (.ptr (.agg [.lit (.string [112, 97, 100, 100, 105, 110, 103, 32, 99, 97, 110, 110, 111, 116, 32, 98, 101, 32, 108, 97, 114, 103, 101, 114, 32, 116, 104, 97, 110, 32, 55])]))

/-- 'laws.FnVectorFloats': WHATEVER THE INPUT: true; the input reads as it did. -/
def fnVectorFloatsSpec : ChangeSpec := { name := "fnVectorFloats", fn := fun _ => fun
  | [d] => { results := [.lit (.bool true)], args := [d] }
  | _ => none }
def fnVectorFloatsRow : OpenClaim := { program := "ytjlioidknhdceaadoor", sum := "afbf2920b5a3507d9ca7a05b7590c2dc18ddaff475a49445ed620230f7584a6a", func := "pub-gunnysack/laws.FnVectorFloats", spec := "fnVectorFloats", inPlace := ["math.Float32frombits", "math.Float32bits"], named := ["encoding/binary.LittleEndian", "pub-gunnysack/pub/bson.errInsufficientVectorData", "pub-gunnysack/pub/bson.errNonZeroVectorPadding", "pub-gunnysack/pub/bson.errVectorPaddingTooLarge"], apart := false, laid := [("pub-gunnysack/pub/bson.errInsufficientVectorData", laid_pub_gunnysack_pub_bson_errInsufficientVectorData), ("pub-gunnysack/pub/bson.errNonZeroVectorPadding", laid_pub_gunnysack_pub_bson_errNonZeroVectorPadding), ("pub-gunnysack/pub/bson.errVectorPaddingTooLarge", laid_pub_gunnysack_pub_bson_errVectorPaddingTooLarge)] }
def FnVectorFloatsSaid : Prop := fnVectorFloatsRow.holds Tryd.pinned (OpenSpec.ofChange fnVectorFloatsSpec)

/-- ITS FALSE NEIGHBOUR: 'it returns false'. Refute it at one input. -/
def fnVectorFloatsWrong : ChangeSpec := { name := "fnVectorFloats", fn := fun _ => fun
  | [d] => { results := [.lit (.bool false)], args := [d] }
  | _ => none }
def FnVectorFloatsWrongFalsely : Prop := fnVectorFloatsRow.holds Tryd.pinned (OpenSpec.ofChange fnVectorFloatsWrong)

/- THE SECOND FORM. 'bulk': how many values and letters a reading holds, each counted each time it is reached (what is shared counts as often as it is met; a slice's spare places count too). A statement '..UptoSaid' is the law's where the arguments, and the package variables that the reading takes, are together of bulk at most 1048576: NARROWER than '..Said'. Prove '..Said' where nothing that the law and all that it calls make is longer than what came in: it says more and counts as full. Else prove '..UptoSaid'. A law counts once. -/
mutual
def uptoBulk {H : Type} : DataW H → Nat
  | .lit (.string bytes) => bytes.length + 1
  | .lit _ => 1
  | .nil => 1
  | .ptr d => uptoBulk d + 1
  | .slice elems spare => uptoBulkAll elems + uptoBulkAll spare + 1
  | .agg parts => uptoBulkAll parts + 1
  | .iface _ d => uptoBulk d + 1
  | .map entries => uptoBulkEntries entries + 1
  | .held _ => 1
def uptoBulkAll {H : Type} : List (DataW H) → Nat
  | [] => 0
  | d :: r => uptoBulk d + uptoBulkAll r
def uptoBulkEntries {H : Type} : List (Lit × DataW H) → Nat
  | [] => 0
  | x :: r => uptoBulkEntry x + uptoBulkEntries r
def uptoBulkEntry {H : Type} : Lit × DataW H → Nat
  | (.string bytes, d) => bytes.length + uptoBulk d + 1
  | (_, d) => uptoBulk d + 1
 end
def uptoSmall : (H : Type) → List (DataW H) → Bool := fun _ ds => decide (uptoBulkAll ds ≤ 1048576)
def OpenSpec.upto (s : _root_.Go.ChangeSpec) : _root_.Go.OpenSpec := { _root_.Go.OpenSpec.ofChange s with cond := some uptoSmall }

/-- 'laws.FnVectorFloats', WHERE WHAT IT READS IS OF BULK AT MOST 1048576: true; the input reads as it did. -/
def fnVectorFloatsUptoRow : OpenClaim := { program := "ytjlioidknhdceaadoor", sum := "afbf2920b5a3507d9ca7a05b7590c2dc18ddaff475a49445ed620230f7584a6a", func := "pub-gunnysack/laws.FnVectorFloats", spec := "fnVectorFloats", inPlace := ["math.Float32frombits", "math.Float32bits"], named := ["encoding/binary.LittleEndian", "pub-gunnysack/pub/bson.errInsufficientVectorData", "pub-gunnysack/pub/bson.errNonZeroVectorPadding", "pub-gunnysack/pub/bson.errVectorPaddingTooLarge"], apart := false, laid := [("pub-gunnysack/pub/bson.errInsufficientVectorData", laid_pub_gunnysack_pub_bson_errInsufficientVectorData), ("pub-gunnysack/pub/bson.errNonZeroVectorPadding", laid_pub_gunnysack_pub_bson_errNonZeroVectorPadding), ("pub-gunnysack/pub/bson.errVectorPaddingTooLarge", laid_pub_gunnysack_pub_bson_errVectorPaddingTooLarge)], narrowed := true }
def FnVectorFloatsUptoSaid : Prop := fnVectorFloatsUptoRow.holds Tryd.pinned (OpenSpec.upto fnVectorFloatsSpec)

end Rows
end Go.Proofs.YtjlioidknhdceaaDoor
