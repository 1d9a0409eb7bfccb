/-
  NARROWER THAN 'FOR EVERY INPUT', by the rows' own cells (each row's printed sentence says how): FnTreeOrder: laid · FnTreePlay: laid · FnTreeWithin: laid.
  DERIVED. THE GIVEN ROWS OF THIS SEAT. 3 by the template 'for every input the law returns true; each argument reads behind the call as it read before'; 0 by the template 'total and deterministic' (their statements: YtokofimfinhnbaaDoorTotals.lean).
  GIVEN WITH THE SEED: the statements are not yours to turn. If you find one false, say at which input.
  Laid BY PROGRAM, IN A SANDBOX (cutbox-rows.mjs): the forced cells as the released guide's own fill.sh prints them over the translation e078e989c406ee59… (all of the seat's roots in one cut). By AI agents, Wed Nov 11 2026. No macro, syntax, notation, axiom, sorry.
-/
import Derived.Test.YtokofimfinhnbaaDoorChecked
import GoSem.Claim
import GoSem.ClaimJoined
import GoSem.ClaimMapViews
import Derived.JoinedTies
import Derived.KernelRfl
namespace Go.Proofs.YtokofimfinhnbaaDoor
/- THE CELL 'sum', in the pinned program and in every row, IS THE sha256 OF THE DUMP (.gsa) THAT YtokofimfinhnbaaDoorProg.lean LOADS. Nothing in Lean hashes anything: it is a label: what it is worth is what the hold of that sum in a sandbox is worth. -/
noncomputable def Tryd.pinned : Pinned := { name := "ytokofimfinhnbaadoor", sum := "e078e989c406ee5911addc72800b062e98b6c75e750cb4f0e76ba9fe06d46f07", checked := Tryd.checked }
namespace Rows
def none {H : Type} : Left H := { results := [], args := [] }

/- WHAT THE LISTED PACKAGE-LEVEL VARIABLES READ AS WHEN THE CALL BEGINS. Each datum BY PROGRAM (the guide's laid-datum.mjs) off the statement by which the dump's own 'gosem.cut.vars' lays the variable. In a bare row this is a premise. The card (YtokofimfinhnbaaDoorCards.lean) ties it to the program's text. -/
def laid_pub_eidograph_pub_simplefeatures_rtree_Stop {H : Type} : DataW H := .iface "*errors.errorString" (.ptr (.agg [.lit (.string [115, 116, 111, 112])]))

/-- 'laws.FnTreeOrder': WHATEVER THE INPUT: true; the input reads as it did. -/
def fnTreeOrderSpec : ChangeSpec := { name := "fnTreeOrder", fn := fun _ => fun
  | [d1, d2, d3] => { results := [.lit (.bool true)], args := [d1, d2, d3] }
  | _ => none }
def fnTreeOrderRow : OpenClaim := { program := "ytokofimfinhnbaadoor", sum := "e078e989c406ee5911addc72800b062e98b6c75e750cb4f0e76ba9fe06d46f07", func := "pub-eidograph/laws.FnTreeOrder", spec := "fnTreeOrder", inPlace := ["internal/reflectlite.TypeOf"], unfollowed := true, recurses := true, named := ["pub-eidograph/pub/simplefeatures/rtree.Stop"], apart := false, laid := [("pub-eidograph/pub/simplefeatures/rtree.Stop", laid_pub_eidograph_pub_simplefeatures_rtree_Stop)] }
def FnTreeOrderSaid : Prop := fnTreeOrderRow.holds Tryd.pinned (OpenSpec.ofChange fnTreeOrderSpec)

/-- ITS FALSE NEIGHBOUR: 'it returns false'. Refute it at one input. -/
def fnTreeOrderWrong : ChangeSpec := { name := "fnTreeOrder", fn := fun _ => fun
  | [d1, d2, d3] => { results := [.lit (.bool false)], args := [d1, d2, d3] }
  | _ => none }
def FnTreeOrderWrongFalsely : Prop := fnTreeOrderRow.holds Tryd.pinned (OpenSpec.ofChange fnTreeOrderWrong)

/-- 'laws.FnTreePlay': WHATEVER THE INPUT: true; the input reads as it did. -/
def fnTreePlaySpec : ChangeSpec := { name := "fnTreePlay", fn := fun _ => fun
  | [d1, d2] => { results := [.lit (.bool true)], args := [d1, d2] }
  | _ => none }
def fnTreePlayRow : OpenClaim := { program := "ytokofimfinhnbaadoor", sum := "e078e989c406ee5911addc72800b062e98b6c75e750cb4f0e76ba9fe06d46f07", func := "pub-eidograph/laws.FnTreePlay", spec := "fnTreePlay", inPlace := ["internal/reflectlite.TypeOf"], unfollowed := true, recurses := true, named := ["pub-eidograph/pub/simplefeatures/rtree.Stop"], apart := false, laid := [("pub-eidograph/pub/simplefeatures/rtree.Stop", laid_pub_eidograph_pub_simplefeatures_rtree_Stop)] }
def FnTreePlaySaid : Prop := fnTreePlayRow.holds Tryd.pinned (OpenSpec.ofChange fnTreePlaySpec)

/-- ITS FALSE NEIGHBOUR: 'it returns false'. Refute it at one input. -/
def fnTreePlayWrong : ChangeSpec := { name := "fnTreePlay", fn := fun _ => fun
  | [d1, d2] => { results := [.lit (.bool false)], args := [d1, d2] }
  | _ => none }
def FnTreePlayWrongFalsely : Prop := fnTreePlayRow.holds Tryd.pinned (OpenSpec.ofChange fnTreePlayWrong)

/-- 'laws.FnTreeWithin': WHATEVER THE INPUT: true; the input reads as it did. -/
def fnTreeWithinSpec : ChangeSpec := { name := "fnTreeWithin", fn := fun _ => fun
  | [d1, d2, d3] => { results := [.lit (.bool true)], args := [d1, d2, d3] }
  | _ => none }
def fnTreeWithinRow : OpenClaim := { program := "ytokofimfinhnbaadoor", sum := "e078e989c406ee5911addc72800b062e98b6c75e750cb4f0e76ba9fe06d46f07", func := "pub-eidograph/laws.FnTreeWithin", spec := "fnTreeWithin", inPlace := ["internal/reflectlite.TypeOf"], unfollowed := true, recurses := true, named := ["pub-eidograph/pub/simplefeatures/rtree.Stop"], apart := false, laid := [("pub-eidograph/pub/simplefeatures/rtree.Stop", laid_pub_eidograph_pub_simplefeatures_rtree_Stop)] }
def FnTreeWithinSaid : Prop := fnTreeWithinRow.holds Tryd.pinned (OpenSpec.ofChange fnTreeWithinSpec)

/-- ITS FALSE NEIGHBOUR: 'it returns false'. Refute it at one input. -/
def fnTreeWithinWrong : ChangeSpec := { name := "fnTreeWithin", fn := fun _ => fun
  | [d1, d2, d3] => { results := [.lit (.bool false)], args := [d1, d2, d3] }
  | _ => none }
def FnTreeWithinWrongFalsely : Prop := fnTreeWithinRow.holds Tryd.pinned (OpenSpec.ofChange fnTreeWithinWrong)

/- THE SECOND FORM. 'bulk': how many values and letters a reading holds, each counted each time it is reached (what is shared counts as often as it is met; a slice's spare places count too). A statement '..UptoSaid' is the law's where the arguments, and the package variables that the reading takes, are together of bulk at most 1048576: NARROWER than '..Said'. Prove '..Said' where nothing that the law and all that it calls make is longer than what came in: it says more and counts as full. Else prove '..UptoSaid'. A law counts once. -/
mutual
def uptoBulk {H : Type} : DataW H → Nat
  | .lit (.string bytes) => bytes.length + 1
  | .lit _ => 1
  | .nil => 1
  | .ptr d => uptoBulk d + 1
  | .slice elems spare => uptoBulkAll elems + uptoBulkAll spare + 1
  | .agg parts => uptoBulkAll parts + 1
  | .iface _ d => uptoBulk d + 1
  | .map entries => uptoBulkEntries entries + 1
  | .held _ => 1
def uptoBulkAll {H : Type} : List (DataW H) → Nat
  | [] => 0
  | d :: r => uptoBulk d + uptoBulkAll r
def uptoBulkEntries {H : Type} : List (Lit × DataW H) → Nat
  | [] => 0
  | x :: r => uptoBulkEntry x + uptoBulkEntries r
def uptoBulkEntry {H : Type} : Lit × DataW H → Nat
  | (.string bytes, d) => bytes.length + uptoBulk d + 1
  | (_, d) => uptoBulk d + 1
 end
def uptoSmall : (H : Type) → List (DataW H) → Bool := fun _ ds => decide (uptoBulkAll ds ≤ 1048576)
def OpenSpec.upto (s : _root_.Go.ChangeSpec) : _root_.Go.OpenSpec := { _root_.Go.OpenSpec.ofChange s with cond := some uptoSmall }

/-- 'laws.FnTreeOrder', WHERE WHAT IT READS IS OF BULK AT MOST 1048576: true; the input reads as it did. -/
def fnTreeOrderUptoRow : OpenClaim := { program := "ytokofimfinhnbaadoor", sum := "e078e989c406ee5911addc72800b062e98b6c75e750cb4f0e76ba9fe06d46f07", func := "pub-eidograph/laws.FnTreeOrder", spec := "fnTreeOrder", inPlace := ["internal/reflectlite.TypeOf"], unfollowed := true, recurses := true, named := ["pub-eidograph/pub/simplefeatures/rtree.Stop"], apart := false, laid := [("pub-eidograph/pub/simplefeatures/rtree.Stop", laid_pub_eidograph_pub_simplefeatures_rtree_Stop)], narrowed := true }
def FnTreeOrderUptoSaid : Prop := fnTreeOrderUptoRow.holds Tryd.pinned (OpenSpec.upto fnTreeOrderSpec)

/-- 'laws.FnTreePlay', WHERE WHAT IT READS IS OF BULK AT MOST 1048576: true; the input reads as it did. -/
def fnTreePlayUptoRow : OpenClaim := { program := "ytokofimfinhnbaadoor", sum := "e078e989c406ee5911addc72800b062e98b6c75e750cb4f0e76ba9fe06d46f07", func := "pub-eidograph/laws.FnTreePlay", spec := "fnTreePlay", inPlace := ["internal/reflectlite.TypeOf"], unfollowed := true, recurses := true, named := ["pub-eidograph/pub/simplefeatures/rtree.Stop"], apart := false, laid := [("pub-eidograph/pub/simplefeatures/rtree.Stop", laid_pub_eidograph_pub_simplefeatures_rtree_Stop)], narrowed := true }
def FnTreePlayUptoSaid : Prop := fnTreePlayUptoRow.holds Tryd.pinned (OpenSpec.upto fnTreePlaySpec)

/-- 'laws.FnTreeWithin', WHERE WHAT IT READS IS OF BULK AT MOST 1048576: true; the input reads as it did. -/
def fnTreeWithinUptoRow : OpenClaim := { program := "ytokofimfinhnbaadoor", sum := "e078e989c406ee5911addc72800b062e98b6c75e750cb4f0e76ba9fe06d46f07", func := "pub-eidograph/laws.FnTreeWithin", spec := "fnTreeWithin", inPlace := ["internal/reflectlite.TypeOf"], unfollowed := true, recurses := true, named := ["pub-eidograph/pub/simplefeatures/rtree.Stop"], apart := false, laid := [("pub-eidograph/pub/simplefeatures/rtree.Stop", laid_pub_eidograph_pub_simplefeatures_rtree_Stop)], narrowed := true }
def FnTreeWithinUptoSaid : Prop := fnTreeWithinUptoRow.holds Tryd.pinned (OpenSpec.upto fnTreeWithinSpec)

end Rows
end Go.Proofs.YtokofimfinhnbaaDoor
