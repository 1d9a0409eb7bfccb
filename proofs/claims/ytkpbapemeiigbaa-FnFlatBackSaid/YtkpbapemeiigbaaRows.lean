/-
  No cell of these rows narrows 'for every input' (looked for: loops, veiled, ifaces, maps, wideKeys, modest, calm, conditions, laid).
  DERIVED. THE GIVEN ROWS OF THIS SEAT. 5 by the template 'for every input the law returns true; each argument reads behind the call as it read before'; 0 by the template 'total and deterministic' (their statements: YtkpbapemeiigbaaTotals.lean).
  GIVEN WITH THE SEED: the statements are not yours to turn. If you find one false, say at which input.
  Laid BY PROGRAM, IN A SANDBOX (cutbox-rows.mjs): the forced cells as the released guide's own fill.sh prints them over the translation b6870d86f58a703e… (all of the seat's roots in one cut). By AI agents, Wed Nov 11 2026. No macro, syntax, notation, axiom, sorry.
-/
import Derived.Test.YtkpbapemeiigbaaChecked
import GoSem.Claim
import GoSem.ClaimJoined
import GoSem.ClaimMapViews
import Derived.JoinedTies
import Derived.KernelRfl
namespace Go.Proofs.Ytkpbapemeiigbaa
/- THE CELL 'sum', in the pinned program and in every row, IS THE sha256 OF THE DUMP (.gsa) THAT YtkpbapemeiigbaaProg.lean LOADS. Nothing in Lean hashes anything: it is a label: what it is worth is what the hold of that sum in a sandbox is worth. -/
noncomputable def Try.pinned : Pinned := { name := "ytkpbapemeiigbaa", sum := "b6870d86f58a703ecb3903f2ecf1277e37bf0dd33b6c92834be5c2d941cad7cc", checked := Try.checked }
namespace Rows
def none {H : Type} : Left H := { results := [], args := [] }

/-- 'laws.FnFaceIs': WHATEVER THE INPUT: true; the input reads as it did. -/
def fnFaceIsSpec : ChangeSpec := { name := "fnFaceIs", fn := fun _ => fun
  | [d] => { results := [.lit (.bool true)], args := [d] }
  | _ => none }
def fnFaceIsRow : OpenClaim := { program := "ytkpbapemeiigbaa", sum := "b6870d86f58a703ecb3903f2ecf1277e37bf0dd33b6c92834be5c2d941cad7cc", func := "pub-eidograph/laws.FnFaceIs", spec := "fnFaceIs", apart := false }
def FnFaceIsSaid : Prop := fnFaceIsRow.holds Try.pinned (OpenSpec.ofChange fnFaceIsSpec)

/-- ITS FALSE NEIGHBOUR: 'it returns false'. Refute it at one input. -/
def fnFaceIsWrong : ChangeSpec := { name := "fnFaceIs", fn := fun _ => fun
  | [d] => { results := [.lit (.bool false)], args := [d] }
  | _ => none }
def FnFaceIsWrongFalsely : Prop := fnFaceIsRow.holds Try.pinned (OpenSpec.ofChange fnFaceIsWrong)

/-- 'laws.FnFlatBack': WHATEVER THE INPUT: true; the input reads as it did. -/
def fnFlatBackSpec : ChangeSpec := { name := "fnFlatBack", fn := fun _ => fun
  | [d] => { results := [.lit (.bool true)], args := [d] }
  | _ => none }
def fnFlatBackRow : OpenClaim := { program := "ytkpbapemeiigbaa", sum := "b6870d86f58a703ecb3903f2ecf1277e37bf0dd33b6c92834be5c2d941cad7cc", func := "pub-eidograph/laws.FnFlatBack", spec := "fnFlatBack", unfollowed := true, recurses := true, apart := false }
def FnFlatBackSaid : Prop := fnFlatBackRow.holds Try.pinned (OpenSpec.ofChange fnFlatBackSpec)

/-- ITS FALSE NEIGHBOUR: 'it returns false'. Refute it at one input. -/
def fnFlatBackWrong : ChangeSpec := { name := "fnFlatBack", fn := fun _ => fun
  | [d] => { results := [.lit (.bool false)], args := [d] }
  | _ => none }
def FnFlatBackWrongFalsely : Prop := fnFlatBackRow.holds Try.pinned (OpenSpec.ofChange fnFlatBackWrong)

/-- 'laws.FnNodeIs': WHATEVER THE INPUT: true; the input reads as it did. -/
def fnNodeIsSpec : ChangeSpec := { name := "fnNodeIs", fn := fun _ => fun
  | [d1, d2, d3, d4, d5] => { results := [.lit (.bool true)], args := [d1, d2, d3, d4, d5] }
  | _ => none }
def fnNodeIsRow : OpenClaim := { program := "ytkpbapemeiigbaa", sum := "b6870d86f58a703ecb3903f2ecf1277e37bf0dd33b6c92834be5c2d941cad7cc", func := "pub-eidograph/laws.FnNodeIs", spec := "fnNodeIs", apart := false }
def FnNodeIsSaid : Prop := fnNodeIsRow.holds Try.pinned (OpenSpec.ofChange fnNodeIsSpec)

/-- ITS FALSE NEIGHBOUR: 'it returns false'. Refute it at one input. -/
def fnNodeIsWrong : ChangeSpec := { name := "fnNodeIs", fn := fun _ => fun
  | [d1, d2, d3, d4, d5] => { results := [.lit (.bool false)], args := [d1, d2, d3, d4, d5] }
  | _ => none }
def FnNodeIsWrongFalsely : Prop := fnNodeIsRow.holds Try.pinned (OpenSpec.ofChange fnNodeIsWrong)

/-- 'laws.FnEnvIs': WHATEVER THE INPUT: true; the input reads as it did. -/
def fnEnvIsSpec : ChangeSpec := { name := "fnEnvIs", fn := fun _ => fun
  | [d] => { results := [.lit (.bool true)], args := [d] }
  | _ => none }
def fnEnvIsRow : OpenClaim := { program := "ytkpbapemeiigbaa", sum := "b6870d86f58a703ecb3903f2ecf1277e37bf0dd33b6c92834be5c2d941cad7cc", func := "pub-eidograph/laws.FnEnvIs", spec := "fnEnvIs", apart := false }
def FnEnvIsSaid : Prop := fnEnvIsRow.holds Try.pinned (OpenSpec.ofChange fnEnvIsSpec)

/-- ITS FALSE NEIGHBOUR: 'it returns false'. Refute it at one input. -/
def fnEnvIsWrong : ChangeSpec := { name := "fnEnvIs", fn := fun _ => fun
  | [d] => { results := [.lit (.bool false)], args := [d] }
  | _ => none }
def FnEnvIsWrongFalsely : Prop := fnEnvIsRow.holds Try.pinned (OpenSpec.ofChange fnEnvIsWrong)

/-- 'laws.FnXYLength': WHATEVER THE INPUT: true; the input reads as it did. -/
def fnXYLengthSpec : ChangeSpec := { name := "fnXYLength", fn := fun _ => fun
  | [d] => { results := [.lit (.bool true)], args := [d] }
  | _ => none }
def fnXYLengthRow : OpenClaim := { program := "ytkpbapemeiigbaa", sum := "b6870d86f58a703ecb3903f2ecf1277e37bf0dd33b6c92834be5c2d941cad7cc", func := "pub-eidograph/laws.FnXYLength", spec := "fnXYLength", inPlace := ["math.sqrt"], unfollowed := true, recurses := true, apart := false }
def FnXYLengthSaid : Prop := fnXYLengthRow.holds Try.pinned (OpenSpec.ofChange fnXYLengthSpec)

/-- ITS FALSE NEIGHBOUR: 'it returns false'. Refute it at one input. -/
def fnXYLengthWrong : ChangeSpec := { name := "fnXYLength", fn := fun _ => fun
  | [d] => { results := [.lit (.bool false)], args := [d] }
  | _ => none }
def FnXYLengthWrongFalsely : Prop := fnXYLengthRow.holds Try.pinned (OpenSpec.ofChange fnXYLengthWrong)

/- THE SECOND FORM. 'bulk': how many values and letters a reading holds, each counted each time it is reached (what is shared counts as often as it is met; a slice's spare places count too). A statement '..UptoSaid' is the law's where the arguments, and the package variables that the reading takes, are together of bulk at most 1048576: NARROWER than '..Said'. Prove '..Said' where nothing that the law and all that it calls make is longer than what came in: it says more and counts as full. Else prove '..UptoSaid'. A law counts once. -/
mutual
def uptoBulk {H : Type} : DataW H → Nat
  | .lit (.string bytes) => bytes.length + 1
  | .lit _ => 1
  | .nil => 1
  | .ptr d => uptoBulk d + 1
  | .slice elems spare => uptoBulkAll elems + uptoBulkAll spare + 1
  | .agg parts => uptoBulkAll parts + 1
  | .iface _ d => uptoBulk d + 1
  | .map entries => uptoBulkEntries entries + 1
  | .held _ => 1
def uptoBulkAll {H : Type} : List (DataW H) → Nat
  | [] => 0
  | d :: r => uptoBulk d + uptoBulkAll r
def uptoBulkEntries {H : Type} : List (Lit × DataW H) → Nat
  | [] => 0
  | x :: r => uptoBulkEntry x + uptoBulkEntries r
def uptoBulkEntry {H : Type} : Lit × DataW H → Nat
  | (.string bytes, d) => bytes.length + uptoBulk d + 1
  | (_, d) => uptoBulk d + 1
 end
def uptoSmall : (H : Type) → List (DataW H) → Bool := fun _ ds => decide (uptoBulkAll ds ≤ 1048576)
def OpenSpec.upto (s : _root_.Go.ChangeSpec) : _root_.Go.OpenSpec := { _root_.Go.OpenSpec.ofChange s with cond := some uptoSmall }

/-- 'laws.FnFaceIs', WHERE WHAT IT READS IS OF BULK AT MOST 1048576: true; the input reads as it did. -/
def fnFaceIsUptoRow : OpenClaim := { program := "ytkpbapemeiigbaa", sum := "b6870d86f58a703ecb3903f2ecf1277e37bf0dd33b6c92834be5c2d941cad7cc", func := "pub-eidograph/laws.FnFaceIs", spec := "fnFaceIs", apart := false, narrowed := true }
def FnFaceIsUptoSaid : Prop := fnFaceIsUptoRow.holds Try.pinned (OpenSpec.upto fnFaceIsSpec)

/-- 'laws.FnFlatBack', WHERE WHAT IT READS IS OF BULK AT MOST 1048576: true; the input reads as it did. -/
def fnFlatBackUptoRow : OpenClaim := { program := "ytkpbapemeiigbaa", sum := "b6870d86f58a703ecb3903f2ecf1277e37bf0dd33b6c92834be5c2d941cad7cc", func := "pub-eidograph/laws.FnFlatBack", spec := "fnFlatBack", unfollowed := true, recurses := true, apart := false, narrowed := true }
def FnFlatBackUptoSaid : Prop := fnFlatBackUptoRow.holds Try.pinned (OpenSpec.upto fnFlatBackSpec)

/-- 'laws.FnNodeIs', WHERE WHAT IT READS IS OF BULK AT MOST 1048576: true; the input reads as it did. -/
def fnNodeIsUptoRow : OpenClaim := { program := "ytkpbapemeiigbaa", sum := "b6870d86f58a703ecb3903f2ecf1277e37bf0dd33b6c92834be5c2d941cad7cc", func := "pub-eidograph/laws.FnNodeIs", spec := "fnNodeIs", apart := false, narrowed := true }
def FnNodeIsUptoSaid : Prop := fnNodeIsUptoRow.holds Try.pinned (OpenSpec.upto fnNodeIsSpec)

/-- 'laws.FnEnvIs', WHERE WHAT IT READS IS OF BULK AT MOST 1048576: true; the input reads as it did. -/
def fnEnvIsUptoRow : OpenClaim := { program := "ytkpbapemeiigbaa", sum := "b6870d86f58a703ecb3903f2ecf1277e37bf0dd33b6c92834be5c2d941cad7cc", func := "pub-eidograph/laws.FnEnvIs", spec := "fnEnvIs", apart := false, narrowed := true }
def FnEnvIsUptoSaid : Prop := fnEnvIsUptoRow.holds Try.pinned (OpenSpec.upto fnEnvIsSpec)

/-- 'laws.FnXYLength', WHERE WHAT IT READS IS OF BULK AT MOST 1048576: true; the input reads as it did. -/
def fnXYLengthUptoRow : OpenClaim := { program := "ytkpbapemeiigbaa", sum := "b6870d86f58a703ecb3903f2ecf1277e37bf0dd33b6c92834be5c2d941cad7cc", func := "pub-eidograph/laws.FnXYLength", spec := "fnXYLength", inPlace := ["math.sqrt"], unfollowed := true, recurses := true, apart := false, narrowed := true }
def FnXYLengthUptoSaid : Prop := fnXYLengthUptoRow.holds Try.pinned (OpenSpec.upto fnXYLengthSpec)

end Rows
end Go.Proofs.Ytkpbapemeiigbaa
