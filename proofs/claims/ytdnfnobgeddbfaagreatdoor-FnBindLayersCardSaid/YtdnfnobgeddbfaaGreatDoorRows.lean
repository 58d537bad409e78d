/-
  NARROWER THAN 'FOR EVERY INPUT', by the rows' own cells (each row's printed sentence says how): FnBindLayers: laid.
  DERIVED. THE GIVEN ROWS OF THIS SEAT. 1 by the template 'for every input the law returns true; each argument reads behind the call as it read before'; 0 by the template 'total and deterministic' (their statements: YtdnfnobgeddbfaaGreatDoorTotals.lean).
  GIVEN WITH THE SEED: the statements are not yours to turn. If you find one false, say at which input.
  Laid BY PROGRAM, IN A SANDBOX (cutbox-rows.mjs): the forced cells as the released guide's own fill.sh prints them over the translation 0bdc1bb4e1cc8e92… (all of the seat's roots in one cut). By AI agents, Wed Nov 11 2026. No macro, syntax, notation, axiom, sorry.
-/
import Derived.Test.YtdnfnobgeddbfaaGreatDoorChecked
import GoSem.Claim
import GoSem.ClaimJoined
import GoSem.ClaimMapViews
import Derived.JoinedTies
import Derived.KernelRfl
namespace Go.Proofs.YtdnfnobgeddbfaaGreatDoor
/- THE CELL 'sum', in the pinned program and in every row, IS THE sha256 OF THE DUMP (.gsa) THAT YtdnfnobgeddbfaaGreatDoorProg.lean LOADS. Nothing in Lean hashes anything: it is a label: what it is worth is what the hold of that sum in a sandbox is worth. -/
noncomputable def Tryz.pinned : Pinned := { name := "ytdnfnobgeddbfaagreatdoor", sum := "0bdc1bb4e1cc8e92d2425ec7d58ac6c8ad298007ed5b39f4e55f10d799774c7d", checked := Tryz.checked }
namespace Rows
def none {H : Type} : Left H := { results := [], args := [] }

/- WHAT THE LISTED PACKAGE-LEVEL VARIABLES READ AS WHEN THE CALL BEGINS. Each datum BY PROGRAM (the guide's laid-datum.mjs) off the statement by which the dump's own 'gosem.cut.vars' lays the variable. In a bare row this is a premise. The card (YtdnfnobgeddbfaaGreatDoorCards.lean) ties it to the program's text. -/
def laid_io_EOF {H : Type} : DataW H := .iface "*errors.errorString" (.ptr (.agg [.lit (.string [69, 79, 70])]))
def laid_pub_gunnysack_pub_bsoncore_ErrEmptyKey {H : Type} : DataW H := .iface "*errors.errorString" (.ptr (.agg [.lit (.string [101, 109, 112, 116, 121, 32, 107, 101, 121, 32, 112, 114, 111, 118, 105, 100, 101, 100])]))
def laid_pub_gunnysack_pub_bsoncore_ErrElementNotFound {H : Type} : DataW H := .iface "*errors.errorString" (.ptr (.agg [.lit (.string [101, 108, 101, 109, 101, 110, 116, 32, 110, 111, 116, 32, 102, 111, 117, 110, 100])]))
def laid_pub_gunnysack_pub_bsoncore_ErrOutOfBounds {H : Type} : DataW H := .iface "*errors.errorString" (.ptr (.agg [.lit (.string [111, 117, 116, 32, 111, 102, 32, 98, 111, 117, 110, 100, 115])]))

/-- 'laws.FnBindLayers': WHATEVER THE INPUT: true; the input reads as it did. -/
def fnBindLayersSpec : ChangeSpec := { name := "fnBindLayers", fn := fun _ => fun
  | [d1, d2, d3] => { results := [.lit (.bool true)], args := [d1, d2, d3] }
  | _ => none }
def fnBindLayersRow : OpenClaim := { program := "ytdnfnobgeddbfaagreatdoor", sum := "0bdc1bb4e1cc8e92d2425ec7d58ac6c8ad298007ed5b39f4e55f10d799774c7d", func := "pub-gunnysack/laws.FnBindLayers", spec := "fnBindLayers", inPlace := ["internal/bytealg.IndexByte", "internal/reflectlite.TypeOf"], unfollowed := true, recurses := true, named := ["pub-gunnysack/pub/bsoncore.ErrOutOfBounds", "pub-gunnysack/pub/bsoncore.ErrElementNotFound", "pub-gunnysack/pub/bsoncore.ErrEmptyKey", "io.EOF"], apart := false, laid := [("io.EOF", laid_io_EOF), ("pub-gunnysack/pub/bsoncore.ErrEmptyKey", laid_pub_gunnysack_pub_bsoncore_ErrEmptyKey), ("pub-gunnysack/pub/bsoncore.ErrElementNotFound", laid_pub_gunnysack_pub_bsoncore_ErrElementNotFound), ("pub-gunnysack/pub/bsoncore.ErrOutOfBounds", laid_pub_gunnysack_pub_bsoncore_ErrOutOfBounds)] }
def FnBindLayersSaid : Prop := fnBindLayersRow.holds Tryz.pinned (OpenSpec.ofChange fnBindLayersSpec)

/-- ITS FALSE NEIGHBOUR: 'it returns false'. Refute it at one input. -/
def fnBindLayersWrong : ChangeSpec := { name := "fnBindLayers", fn := fun _ => fun
  | [d1, d2, d3] => { results := [.lit (.bool false)], args := [d1, d2, d3] }
  | _ => none }
def FnBindLayersWrongFalsely : Prop := fnBindLayersRow.holds Tryz.pinned (OpenSpec.ofChange fnBindLayersWrong)

/- THE SECOND FORM. 'bulk': how many values and letters a reading holds, each counted each time it is reached (what is shared counts as often as it is met; a slice's spare places count too). A statement '..UptoSaid' is the law's where the arguments, and the package variables that the reading takes, are together of bulk at most 1048576: NARROWER than '..Said'. Prove '..Said' where nothing that the law and all that it calls make is longer than what came in: it says more and counts as full. Else prove '..UptoSaid'. A law counts once. -/
mutual
def uptoBulk {H : Type} : DataW H → Nat
  | .lit (.string bytes) => bytes.length + 1
  | .lit _ => 1
  | .nil => 1
  | .ptr d => uptoBulk d + 1
  | .slice elems spare => uptoBulkAll elems + uptoBulkAll spare + 1
  | .agg parts => uptoBulkAll parts + 1
  | .iface _ d => uptoBulk d + 1
  | .map entries => uptoBulkEntries entries + 1
  | .held _ => 1
def uptoBulkAll {H : Type} : List (DataW H) → Nat
  | [] => 0
  | d :: r => uptoBulk d + uptoBulkAll r
def uptoBulkEntries {H : Type} : List (Lit × DataW H) → Nat
  | [] => 0
  | x :: r => uptoBulkEntry x + uptoBulkEntries r
def uptoBulkEntry {H : Type} : Lit × DataW H → Nat
  | (.string bytes, d) => bytes.length + uptoBulk d + 1
  | (_, d) => uptoBulk d + 1
 end
def uptoSmall : (H : Type) → List (DataW H) → Bool := fun _ ds => decide (uptoBulkAll ds ≤ 1048576)
def OpenSpec.upto (s : _root_.Go.ChangeSpec) : _root_.Go.OpenSpec := { _root_.Go.OpenSpec.ofChange s with cond := some uptoSmall }

/-- 'laws.FnBindLayers', WHERE WHAT IT READS IS OF BULK AT MOST 1048576: true; the input reads as it did. -/
def fnBindLayersUptoRow : OpenClaim := { program := "ytdnfnobgeddbfaagreatdoor", sum := "0bdc1bb4e1cc8e92d2425ec7d58ac6c8ad298007ed5b39f4e55f10d799774c7d", func := "pub-gunnysack/laws.FnBindLayers", spec := "fnBindLayers", inPlace := ["internal/bytealg.IndexByte", "internal/reflectlite.TypeOf"], unfollowed := true, recurses := true, named := ["pub-gunnysack/pub/bsoncore.ErrOutOfBounds", "pub-gunnysack/pub/bsoncore.ErrElementNotFound", "pub-gunnysack/pub/bsoncore.ErrEmptyKey", "io.EOF"], apart := false, laid := [("io.EOF", laid_io_EOF), ("pub-gunnysack/pub/bsoncore.ErrEmptyKey", laid_pub_gunnysack_pub_bsoncore_ErrEmptyKey), ("pub-gunnysack/pub/bsoncore.ErrElementNotFound", laid_pub_gunnysack_pub_bsoncore_ErrElementNotFound), ("pub-gunnysack/pub/bsoncore.ErrOutOfBounds", laid_pub_gunnysack_pub_bsoncore_ErrOutOfBounds)], narrowed := true }
def FnBindLayersUptoSaid : Prop := fnBindLayersUptoRow.holds Tryz.pinned (OpenSpec.upto fnBindLayersSpec)

end Rows
end Go.Proofs.YtdnfnobgeddbfaaGreatDoor
