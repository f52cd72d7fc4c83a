/-
  NARROWER THAN 'FOR EVERY INPUT', by the rows' own cells (each row's printed sentence says how): FnTreeLevel: laid.
  DERIVED. THE GIVEN ROWS OF THIS SEAT. 1 by the template 'for every input the law returns true; each argument reads behind the call as it read before'; 0 by the template 'total and deterministic' (their statements: YtghppnklhbbffaaGreatDoorTotals.lean).
  GIVEN WITH THE SEED: the statements are not yours to turn. If you find one false, say at which input.
  Laid BY PROGRAM, IN A SANDBOX (cutbox-rows.mjs): the forced cells as the released guide's own fill.sh prints them over the translation 7e70c315b39c2d96… (all of the seat's roots in one cut). By AI agents, Wed Nov 11 2026. No macro, syntax, notation, axiom, sorry.
-/
import Derived.Test.YtghppnklhbbffaaGreatDoorChecked
import GoSem.Claim
import GoSem.ClaimJoined
import GoSem.ClaimMapViews
import Derived.JoinedTies
import Derived.KernelRfl
namespace Go.Proofs.YtghppnklhbbffaaGreatDoor
/- THE CELL 'sum', in the pinned program and in every row, IS THE sha256 OF THE DUMP (.gsa) THAT YtghppnklhbbffaaGreatDoorProg.lean LOADS. Nothing in Lean hashes anything: it is a label: what it is worth is what the hold of that sum in a sandbox is worth. -/
noncomputable def Tryz.pinned : Pinned := { name := "ytghppnklhbbffaagreatdoor", sum := "7e70c315b39c2d961010508b407582ad00c5a3533871fa348f980a7d1a5b8f68", checked := Tryz.checked }
namespace Rows
def none {H : Type} : Left H := { results := [], args := [] }

/- WHAT THE LISTED PACKAGE-LEVEL VARIABLES READ AS WHEN THE CALL BEGINS. Each datum BY PROGRAM (the guide's laid-datum.mjs) off the statement by which the dump's own 'gosem.cut.vars' lays the variable. In a bare row this is a premise. The card (YtghppnklhbbffaaGreatDoorCards.lean) ties it to the program's text. -/
def laid_pub_strandline_pub_pebble_inner_manifest_errInvalidL0SublevelsOpt {H : Type} : DataW H := .iface "*errors.errorString" (.ptr (.agg [.lit (.string [112, 101, 98, 98, 108, 101, 58, 32, 76, 48, 32, 115, 117, 98, 108, 101, 118, 101, 108, 32, 103, 101, 110, 101, 114, 97, 116, 105, 111, 110, 32, 111, 112, 116, 105, 109, 105, 122, 97, 116, 105, 111, 110, 32, 99, 97, 110, 110, 111, 116, 32, 98, 101, 32, 117, 115, 101, 100])]))

/-- 'laws.FnTreeLevel': WHATEVER THE INPUT: true; the input reads as it did. -/
def fnTreeLevelSpec : ChangeSpec := { name := "fnTreeLevel", fn := fun _ => fun
  | [d1, d2, d3] => { results := [.lit (.bool true)], args := [d1, d2, d3] }
  | _ => none }
def fnTreeLevelRow : OpenClaim := { program := "ytghppnklhbbffaagreatdoor", sum := "7e70c315b39c2d961010508b407582ad00c5a3533871fa348f980a7d1a5b8f68", func := "pub-strandline/laws.FnTreeLevel", spec := "fnTreeLevel", inPlace := ["internal/bytealg.Compare", "sync/atomic.StoreInt32", "sync/atomic.LoadInt32", "sync/atomic.AddInt32"], unfollowed := true, recurses := true, named := ["encoding/binary.BigEndian", "encoding/binary.LittleEndian", "pub-strandline/pub/pebble/inner/manifest.errInvalidL0SublevelsOpt"], apart := false, laid := [("pub-strandline/pub/pebble/inner/manifest.errInvalidL0SublevelsOpt", laid_pub_strandline_pub_pebble_inner_manifest_errInvalidL0SublevelsOpt)] }
def FnTreeLevelSaid : Prop := fnTreeLevelRow.holds Tryz.pinned (OpenSpec.ofChange fnTreeLevelSpec)

/-- ITS FALSE NEIGHBOUR: 'it returns false'. Refute it at one input. -/
def fnTreeLevelWrong : ChangeSpec := { name := "fnTreeLevel", fn := fun _ => fun
  | [d1, d2, d3] => { results := [.lit (.bool false)], args := [d1, d2, d3] }
  | _ => none }
def FnTreeLevelWrongFalsely : Prop := fnTreeLevelRow.holds Tryz.pinned (OpenSpec.ofChange fnTreeLevelWrong)

/- THE SECOND FORM. 'bulk': how many values and letters a reading holds, each counted each time it is reached (what is shared counts as often as it is met; a slice's spare places count too). A statement '..UptoSaid' is the law's where the arguments, and the package variables that the reading takes, are together of bulk at most 1048576: NARROWER than '..Said'. Prove '..Said' where nothing that the law and all that it calls make is longer than what came in: it says more and counts as full. Else prove '..UptoSaid'. A law counts once. -/
mutual
def uptoBulk {H : Type} : DataW H → Nat
  | .lit (.string bytes) => bytes.length + 1
  | .lit _ => 1
  | .nil => 1
  | .ptr d => uptoBulk d + 1
  | .slice elems spare => uptoBulkAll elems + uptoBulkAll spare + 1
  | .agg parts => uptoBulkAll parts + 1
  | .iface _ d => uptoBulk d + 1
  | .map entries => uptoBulkEntries entries + 1
  | .held _ => 1
def uptoBulkAll {H : Type} : List (DataW H) → Nat
  | [] => 0
  | d :: r => uptoBulk d + uptoBulkAll r
def uptoBulkEntries {H : Type} : List (Lit × DataW H) → Nat
  | [] => 0
  | x :: r => uptoBulkEntry x + uptoBulkEntries r
def uptoBulkEntry {H : Type} : Lit × DataW H → Nat
  | (.string bytes, d) => bytes.length + uptoBulk d + 1
  | (_, d) => uptoBulk d + 1
 end
def uptoSmall : (H : Type) → List (DataW H) → Bool := fun _ ds => decide (uptoBulkAll ds ≤ 1048576)
def OpenSpec.upto (s : _root_.Go.ChangeSpec) : _root_.Go.OpenSpec := { _root_.Go.OpenSpec.ofChange s with cond := some uptoSmall }

/-- 'laws.FnTreeLevel', WHERE WHAT IT READS IS OF BULK AT MOST 1048576: true; the input reads as it did. -/
def fnTreeLevelUptoRow : OpenClaim := { program := "ytghppnklhbbffaagreatdoor", sum := "7e70c315b39c2d961010508b407582ad00c5a3533871fa348f980a7d1a5b8f68", func := "pub-strandline/laws.FnTreeLevel", spec := "fnTreeLevel", inPlace := ["internal/bytealg.Compare", "sync/atomic.StoreInt32", "sync/atomic.LoadInt32", "sync/atomic.AddInt32"], unfollowed := true, recurses := true, named := ["encoding/binary.BigEndian", "encoding/binary.LittleEndian", "pub-strandline/pub/pebble/inner/manifest.errInvalidL0SublevelsOpt"], apart := false, laid := [("pub-strandline/pub/pebble/inner/manifest.errInvalidL0SublevelsOpt", laid_pub_strandline_pub_pebble_inner_manifest_errInvalidL0SublevelsOpt)], narrowed := true }
def FnTreeLevelUptoSaid : Prop := fnTreeLevelUptoRow.holds Tryz.pinned (OpenSpec.upto fnTreeLevelSpec)

end Rows
end Go.Proofs.YtghppnklhbbffaaGreatDoor
