/-
  NARROWER THAN 'FOR EVERY INPUT', by the rows' own cells (each row's printed sentence says how): FnBindValue: loops, laid · FnBindLookup: loops, laid · FnBindElements: loops, laid · FnBindValid: laid.
  DERIVED. THE GIVEN ROWS OF THIS SEAT. 4 by the template 'for every input the law returns true; each argument reads behind the call as it read before'; 0 by the template 'total and deterministic' (their statements: YtdnfnobgeddbfaaDoorTotals.lean).
  GIVEN WITH THE SEED: the statements are not yours to turn. If you find one false, say at which input.
  Laid BY PROGRAM, IN A SANDBOX (cutbox-rows.mjs): the forced cells as the released guide's own fill.sh prints them over the translation d881ab7dff754961… (all of the seat's roots in one cut). By AI agents, Wed Nov 11 2026. No macro, syntax, notation, axiom, sorry.
-/
import Derived.Test.YtdnfnobgeddbfaaDoorChecked
import GoSem.Claim
import GoSem.ClaimJoined
import GoSem.ClaimMapViews
import Derived.JoinedTies
import Derived.KernelRfl
namespace Go.Proofs.YtdnfnobgeddbfaaDoor
/- THE CELL 'sum', in the pinned program and in every row, IS THE sha256 OF THE DUMP (.gsa) THAT YtdnfnobgeddbfaaDoorProg.lean LOADS. Nothing in Lean hashes anything: it is a label: what it is worth is what the hold of that sum in a sandbox is worth. -/
noncomputable def Tryd.pinned : Pinned := { name := "ytdnfnobgeddbfaadoor", sum := "d881ab7dff754961417065dadc16b05c351fca476b4d199d558fe4d13b963750", checked := Tryd.checked }
namespace Rows
def none {H : Type} : Left H := { results := [], args := [] }

/- WHAT THE LISTED PACKAGE-LEVEL VARIABLES READ AS WHEN THE CALL BEGINS. Each datum BY PROGRAM (the guide's laid-datum.mjs) off the statement by which the dump's own 'gosem.cut.vars' lays the variable. In a bare row this is a premise. The card (YtdnfnobgeddbfaaDoorCards.lean) ties it to the program's text. -/
def laid_io_EOF {H : Type} : DataW H := .iface "*errors.errorString" (.ptr (.agg [.lit (.string [69, 79, 70])]))
def laid_pub_gunnysack_pub_bsoncore_ErrEmptyKey {H : Type} : DataW H := .iface "*errors.errorString" (.ptr (.agg [.lit (.string [101, 109, 112, 116, 121, 32, 107, 101, 121, 32, 112, 114, 111, 118, 105, 100, 101, 100])]))
def laid_pub_gunnysack_pub_bsoncore_ErrElementNotFound {H : Type} : DataW H := .iface "*errors.errorString" (.ptr (.agg [.lit (.string [101, 108, 101, 109, 101, 110, 116, 32, 110, 111, 116, 32, 102, 111, 117, 110, 100])]))
def laid_pub_gunnysack_pub_bsoncore_ErrOutOfBounds {H : Type} : DataW H := .iface "*errors.errorString" (.ptr (.agg [.lit (.string [111, 117, 116, 32, 111, 102, 32, 98, 111, 117, 110, 100, 115])]))

/-- 'laws.FnBindValue': WHATEVER THE INPUT: true; the input reads as it did. -/
def fnBindValueSpec : ChangeSpec := { name := "fnBindValue", fn := fun _ => fun
  | [d1, d2] => { results := [.lit (.bool true)], args := [d1, d2] }
  | _ => none }
def fnBindValueRow : OpenClaim := { program := "ytdnfnobgeddbfaadoor", sum := "d881ab7dff754961417065dadc16b05c351fca476b4d199d558fe4d13b963750", func := "pub-gunnysack/laws.FnBindValue", spec := "fnBindValue", inPlace := ["internal/bytealg.IndexByte", "internal/reflectlite.TypeOf"], unfollowed := true, recurses := true, named := ["pub-gunnysack/pub/bsoncore.ErrOutOfBounds", "pub-gunnysack/pub/bsoncore.ErrElementNotFound", "pub-gunnysack/pub/bsoncore.ErrEmptyKey", "io.EOF"], loops := true, apart := false, laid := [("io.EOF", laid_io_EOF), ("pub-gunnysack/pub/bsoncore.ErrEmptyKey", laid_pub_gunnysack_pub_bsoncore_ErrEmptyKey), ("pub-gunnysack/pub/bsoncore.ErrElementNotFound", laid_pub_gunnysack_pub_bsoncore_ErrElementNotFound), ("pub-gunnysack/pub/bsoncore.ErrOutOfBounds", laid_pub_gunnysack_pub_bsoncore_ErrOutOfBounds)] }
def FnBindValueSaid : Prop := fnBindValueRow.holds Tryd.pinned (OpenSpec.ofChange fnBindValueSpec)

/-- ITS FALSE NEIGHBOUR: 'it returns false'. Refute it at one input. -/
def fnBindValueWrong : ChangeSpec := { name := "fnBindValue", fn := fun _ => fun
  | [d1, d2] => { results := [.lit (.bool false)], args := [d1, d2] }
  | _ => none }
def FnBindValueWrongFalsely : Prop := fnBindValueRow.holds Tryd.pinned (OpenSpec.ofChange fnBindValueWrong)

/-- 'laws.FnBindLookup': WHATEVER THE INPUT: true; the input reads as it did. -/
def fnBindLookupSpec : ChangeSpec := { name := "fnBindLookup", fn := fun _ => fun
  | [d1, d2] => { results := [.lit (.bool true)], args := [d1, d2] }
  | _ => none }
def fnBindLookupRow : OpenClaim := { program := "ytdnfnobgeddbfaadoor", sum := "d881ab7dff754961417065dadc16b05c351fca476b4d199d558fe4d13b963750", func := "pub-gunnysack/laws.FnBindLookup", spec := "fnBindLookup", inPlace := ["internal/bytealg.IndexByte", "internal/reflectlite.TypeOf"], unfollowed := true, recurses := true, named := ["pub-gunnysack/pub/bsoncore.ErrEmptyKey", "pub-gunnysack/pub/bsoncore.ErrElementNotFound", "pub-gunnysack/pub/bsoncore.ErrOutOfBounds", "io.EOF"], loops := true, apart := false, laid := [("io.EOF", laid_io_EOF), ("pub-gunnysack/pub/bsoncore.ErrEmptyKey", laid_pub_gunnysack_pub_bsoncore_ErrEmptyKey), ("pub-gunnysack/pub/bsoncore.ErrElementNotFound", laid_pub_gunnysack_pub_bsoncore_ErrElementNotFound), ("pub-gunnysack/pub/bsoncore.ErrOutOfBounds", laid_pub_gunnysack_pub_bsoncore_ErrOutOfBounds)] }
def FnBindLookupSaid : Prop := fnBindLookupRow.holds Tryd.pinned (OpenSpec.ofChange fnBindLookupSpec)

/-- ITS FALSE NEIGHBOUR: 'it returns false'. Refute it at one input. -/
def fnBindLookupWrong : ChangeSpec := { name := "fnBindLookup", fn := fun _ => fun
  | [d1, d2] => { results := [.lit (.bool false)], args := [d1, d2] }
  | _ => none }
def FnBindLookupWrongFalsely : Prop := fnBindLookupRow.holds Tryd.pinned (OpenSpec.ofChange fnBindLookupWrong)

/-- 'laws.FnBindElements': WHATEVER THE INPUT: true; the input reads as it did. -/
def fnBindElementsSpec : ChangeSpec := { name := "fnBindElements", fn := fun _ => fun
  | [d] => { results := [.lit (.bool true)], args := [d] }
  | _ => none }
def fnBindElementsRow : OpenClaim := { program := "ytdnfnobgeddbfaadoor", sum := "d881ab7dff754961417065dadc16b05c351fca476b4d199d558fe4d13b963750", func := "pub-gunnysack/laws.FnBindElements", spec := "fnBindElements", inPlace := ["internal/bytealg.IndexByte", "internal/reflectlite.TypeOf"], unfollowed := true, recurses := true, named := ["pub-gunnysack/pub/bsoncore.ErrOutOfBounds", "pub-gunnysack/pub/bsoncore.ErrElementNotFound", "pub-gunnysack/pub/bsoncore.ErrEmptyKey", "io.EOF"], loops := true, apart := false, laid := [("io.EOF", laid_io_EOF), ("pub-gunnysack/pub/bsoncore.ErrEmptyKey", laid_pub_gunnysack_pub_bsoncore_ErrEmptyKey), ("pub-gunnysack/pub/bsoncore.ErrElementNotFound", laid_pub_gunnysack_pub_bsoncore_ErrElementNotFound), ("pub-gunnysack/pub/bsoncore.ErrOutOfBounds", laid_pub_gunnysack_pub_bsoncore_ErrOutOfBounds)] }
def FnBindElementsSaid : Prop := fnBindElementsRow.holds Tryd.pinned (OpenSpec.ofChange fnBindElementsSpec)

/-- ITS FALSE NEIGHBOUR: 'it returns false'. Refute it at one input. -/
def fnBindElementsWrong : ChangeSpec := { name := "fnBindElements", fn := fun _ => fun
  | [d] => { results := [.lit (.bool false)], args := [d] }
  | _ => none }
def FnBindElementsWrongFalsely : Prop := fnBindElementsRow.holds Tryd.pinned (OpenSpec.ofChange fnBindElementsWrong)

/-- 'laws.FnBindValid': WHATEVER THE INPUT: true; the input reads as it did. -/
def fnBindValidSpec : ChangeSpec := { name := "fnBindValid", fn := fun _ => fun
  | [d] => { results := [.lit (.bool true)], args := [d] }
  | _ => none }
def fnBindValidRow : OpenClaim := { program := "ytdnfnobgeddbfaadoor", sum := "d881ab7dff754961417065dadc16b05c351fca476b4d199d558fe4d13b963750", func := "pub-gunnysack/laws.FnBindValid", spec := "fnBindValid", inPlace := ["internal/bytealg.IndexByte", "internal/reflectlite.TypeOf"], unfollowed := true, recurses := true, named := ["pub-gunnysack/pub/bsoncore.ErrOutOfBounds", "pub-gunnysack/pub/bsoncore.ErrElementNotFound", "pub-gunnysack/pub/bsoncore.ErrEmptyKey", "io.EOF"], apart := false, laid := [("io.EOF", laid_io_EOF), ("pub-gunnysack/pub/bsoncore.ErrEmptyKey", laid_pub_gunnysack_pub_bsoncore_ErrEmptyKey), ("pub-gunnysack/pub/bsoncore.ErrElementNotFound", laid_pub_gunnysack_pub_bsoncore_ErrElementNotFound), ("pub-gunnysack/pub/bsoncore.ErrOutOfBounds", laid_pub_gunnysack_pub_bsoncore_ErrOutOfBounds)] }
def FnBindValidSaid : Prop := fnBindValidRow.holds Tryd.pinned (OpenSpec.ofChange fnBindValidSpec)

/-- ITS FALSE NEIGHBOUR: 'it returns false'. Refute it at one input. -/
def fnBindValidWrong : ChangeSpec := { name := "fnBindValid", fn := fun _ => fun
  | [d] => { results := [.lit (.bool false)], args := [d] }
  | _ => none }
def FnBindValidWrongFalsely : Prop := fnBindValidRow.holds Tryd.pinned (OpenSpec.ofChange fnBindValidWrong)

/- THE SECOND FORM. 'bulk': how many values and letters a reading holds, each counted each time it is reached (what is shared counts as often as it is met; a slice's spare places count too). A statement '..UptoSaid' is the law's where the arguments, and the package variables that the reading takes, are together of bulk at most 1048576: NARROWER than '..Said'. Prove '..Said' where nothing that the law and all that it calls make is longer than what came in: it says more and counts as full. Else prove '..UptoSaid'. A law counts once. -/
mutual
def uptoBulk {H : Type} : DataW H → Nat
  | .lit (.string bytes) => bytes.length + 1
  | .lit _ => 1
  | .nil => 1
  | .ptr d => uptoBulk d + 1
  | .slice elems spare => uptoBulkAll elems + uptoBulkAll spare + 1
  | .agg parts => uptoBulkAll parts + 1
  | .iface _ d => uptoBulk d + 1
  | .map entries => uptoBulkEntries entries + 1
  | .held _ => 1
def uptoBulkAll {H : Type} : List (DataW H) → Nat
  | [] => 0
  | d :: r => uptoBulk d + uptoBulkAll r
def uptoBulkEntries {H : Type} : List (Lit × DataW H) → Nat
  | [] => 0
  | x :: r => uptoBulkEntry x + uptoBulkEntries r
def uptoBulkEntry {H : Type} : Lit × DataW H → Nat
  | (.string bytes, d) => bytes.length + uptoBulk d + 1
  | (_, d) => uptoBulk d + 1
 end
def uptoSmall : (H : Type) → List (DataW H) → Bool := fun _ ds => decide (uptoBulkAll ds ≤ 1048576)
def OpenSpec.upto (s : _root_.Go.ChangeSpec) : _root_.Go.OpenSpec := { _root_.Go.OpenSpec.ofChange s with cond := some uptoSmall }

/-- 'laws.FnBindValue', WHERE WHAT IT READS IS OF BULK AT MOST 1048576: true; the input reads as it did. -/
def fnBindValueUptoRow : OpenClaim := { program := "ytdnfnobgeddbfaadoor", sum := "d881ab7dff754961417065dadc16b05c351fca476b4d199d558fe4d13b963750", func := "pub-gunnysack/laws.FnBindValue", spec := "fnBindValue", inPlace := ["internal/bytealg.IndexByte", "internal/reflectlite.TypeOf"], unfollowed := true, recurses := true, named := ["pub-gunnysack/pub/bsoncore.ErrOutOfBounds", "pub-gunnysack/pub/bsoncore.ErrElementNotFound", "pub-gunnysack/pub/bsoncore.ErrEmptyKey", "io.EOF"], loops := true, apart := false, laid := [("io.EOF", laid_io_EOF), ("pub-gunnysack/pub/bsoncore.ErrEmptyKey", laid_pub_gunnysack_pub_bsoncore_ErrEmptyKey), ("pub-gunnysack/pub/bsoncore.ErrElementNotFound", laid_pub_gunnysack_pub_bsoncore_ErrElementNotFound), ("pub-gunnysack/pub/bsoncore.ErrOutOfBounds", laid_pub_gunnysack_pub_bsoncore_ErrOutOfBounds)], narrowed := true }
def FnBindValueUptoSaid : Prop := fnBindValueUptoRow.holds Tryd.pinned (OpenSpec.upto fnBindValueSpec)

/-- 'laws.FnBindLookup', WHERE WHAT IT READS IS OF BULK AT MOST 1048576: true; the input reads as it did. -/
def fnBindLookupUptoRow : OpenClaim := { program := "ytdnfnobgeddbfaadoor", sum := "d881ab7dff754961417065dadc16b05c351fca476b4d199d558fe4d13b963750", func := "pub-gunnysack/laws.FnBindLookup", spec := "fnBindLookup", inPlace := ["internal/bytealg.IndexByte", "internal/reflectlite.TypeOf"], unfollowed := true, recurses := true, named := ["pub-gunnysack/pub/bsoncore.ErrEmptyKey", "pub-gunnysack/pub/bsoncore.ErrElementNotFound", "pub-gunnysack/pub/bsoncore.ErrOutOfBounds", "io.EOF"], loops := true, apart := false, laid := [("io.EOF", laid_io_EOF), ("pub-gunnysack/pub/bsoncore.ErrEmptyKey", laid_pub_gunnysack_pub_bsoncore_ErrEmptyKey), ("pub-gunnysack/pub/bsoncore.ErrElementNotFound", laid_pub_gunnysack_pub_bsoncore_ErrElementNotFound), ("pub-gunnysack/pub/bsoncore.ErrOutOfBounds", laid_pub_gunnysack_pub_bsoncore_ErrOutOfBounds)], narrowed := true }
def FnBindLookupUptoSaid : Prop := fnBindLookupUptoRow.holds Tryd.pinned (OpenSpec.upto fnBindLookupSpec)

/-- 'laws.FnBindElements', WHERE WHAT IT READS IS OF BULK AT MOST 1048576: true; the input reads as it did. -/
def fnBindElementsUptoRow : OpenClaim := { program := "ytdnfnobgeddbfaadoor", sum := "d881ab7dff754961417065dadc16b05c351fca476b4d199d558fe4d13b963750", func := "pub-gunnysack/laws.FnBindElements", spec := "fnBindElements", inPlace := ["internal/bytealg.IndexByte", "internal/reflectlite.TypeOf"], unfollowed := true, recurses := true, named := ["pub-gunnysack/pub/bsoncore.ErrOutOfBounds", "pub-gunnysack/pub/bsoncore.ErrElementNotFound", "pub-gunnysack/pub/bsoncore.ErrEmptyKey", "io.EOF"], loops := true, apart := false, laid := [("io.EOF", laid_io_EOF), ("pub-gunnysack/pub/bsoncore.ErrEmptyKey", laid_pub_gunnysack_pub_bsoncore_ErrEmptyKey), ("pub-gunnysack/pub/bsoncore.ErrElementNotFound", laid_pub_gunnysack_pub_bsoncore_ErrElementNotFound), ("pub-gunnysack/pub/bsoncore.ErrOutOfBounds", laid_pub_gunnysack_pub_bsoncore_ErrOutOfBounds)], narrowed := true }
def FnBindElementsUptoSaid : Prop := fnBindElementsUptoRow.holds Tryd.pinned (OpenSpec.upto fnBindElementsSpec)

/-- 'laws.FnBindValid', WHERE WHAT IT READS IS OF BULK AT MOST 1048576: true; the input reads as it did. -/
def fnBindValidUptoRow : OpenClaim := { program := "ytdnfnobgeddbfaadoor", sum := "d881ab7dff754961417065dadc16b05c351fca476b4d199d558fe4d13b963750", func := "pub-gunnysack/laws.FnBindValid", spec := "fnBindValid", inPlace := ["internal/bytealg.IndexByte", "internal/reflectlite.TypeOf"], unfollowed := true, recurses := true, named := ["pub-gunnysack/pub/bsoncore.ErrOutOfBounds", "pub-gunnysack/pub/bsoncore.ErrElementNotFound", "pub-gunnysack/pub/bsoncore.ErrEmptyKey", "io.EOF"], apart := false, laid := [("io.EOF", laid_io_EOF), ("pub-gunnysack/pub/bsoncore.ErrEmptyKey", laid_pub_gunnysack_pub_bsoncore_ErrEmptyKey), ("pub-gunnysack/pub/bsoncore.ErrElementNotFound", laid_pub_gunnysack_pub_bsoncore_ErrElementNotFound), ("pub-gunnysack/pub/bsoncore.ErrOutOfBounds", laid_pub_gunnysack_pub_bsoncore_ErrOutOfBounds)], narrowed := true }
def FnBindValidUptoSaid : Prop := fnBindValidUptoRow.holds Tryd.pinned (OpenSpec.upto fnBindValidSpec)

end Rows
end Go.Proofs.YtdnfnobgeddbfaaDoor
