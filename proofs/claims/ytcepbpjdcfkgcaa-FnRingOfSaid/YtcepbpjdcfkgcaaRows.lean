/-
  NARROWER THAN 'FOR EVERY INPUT', by the rows' own cells (each row's printed sentence says how): FnRingOf: loops · FnOrderRingsAgain: loops.
  DERIVED. THE GIVEN ROWS OF THIS SEAT. 2 by the template 'for every input the law returns true; each argument reads behind the call as it read before'; 0 by the template 'total and deterministic' (their statements: YtcepbpjdcfkgcaaTotals.lean).
  GIVEN WITH THE SEED: the statements are not yours to turn. If you find one false, say at which input.
  Laid BY PROGRAM, IN A SANDBOX (cutbox-rows.mjs): the forced cells as the released guide's own fill.sh prints them over the translation 9e7b18d14f773aa7… (all of the seat's roots in one cut). By AI agents, Wed Nov 11 2026. No macro, syntax, notation, axiom, sorry.
-/
import Derived.Test.YtcepbpjdcfkgcaaChecked
import GoSem.Claim
import GoSem.ClaimJoined
import GoSem.ClaimMapViews
import Derived.JoinedTies
import Derived.KernelRfl
namespace Go.Proofs.Ytcepbpjdcfkgcaa
/- THE CELL 'sum', in the pinned program and in every row, IS THE sha256 OF THE DUMP (.gsa) THAT YtcepbpjdcfkgcaaProg.lean LOADS. Nothing in Lean hashes anything: it is a label: what it is worth is what the hold of that sum in a sandbox is worth. -/
noncomputable def Try.pinned : Pinned := { name := "ytcepbpjdcfkgcaa", sum := "9e7b18d14f773aa734ad06bfc869468f236bd2beaed5cbe57e887752f63e1472", checked := Try.checked }
namespace Rows
def none {H : Type} : Left H := { results := [], args := [] }

/-- 'laws.FnRingOf': WHATEVER THE INPUT: true; the input reads as it did. -/
def fnRingOfSpec : ChangeSpec := { name := "fnRingOf", fn := fun _ => fun
  | [d] => { results := [.lit (.bool true)], args := [d] }
  | _ => none }
def fnRingOfRow : OpenClaim := { program := "ytcepbpjdcfkgcaa", sum := "9e7b18d14f773aa734ad06bfc869468f236bd2beaed5cbe57e887752f63e1472", func := "pub-eidograph/laws.FnRingOf", spec := "fnRingOf", unfollowed := true, recurses := true, loops := true, apart := false }
def FnRingOfSaid : Prop := fnRingOfRow.holds Try.pinned (OpenSpec.ofChange fnRingOfSpec)

/-- ITS FALSE NEIGHBOUR: 'it returns false'. Refute it at one input. -/
def fnRingOfWrong : ChangeSpec := { name := "fnRingOf", fn := fun _ => fun
  | [d] => { results := [.lit (.bool false)], args := [d] }
  | _ => none }
def FnRingOfWrongFalsely : Prop := fnRingOfRow.holds Try.pinned (OpenSpec.ofChange fnRingOfWrong)

/-- 'laws.FnOrderRingsAgain': WHATEVER THE INPUT: true; the input reads as it did. -/
def fnOrderRingsAgainSpec : ChangeSpec := { name := "fnOrderRingsAgain", fn := fun _ => fun
  | [d1, d2] => { results := [.lit (.bool true)], args := [d1, d2] }
  | _ => none }
def fnOrderRingsAgainRow : OpenClaim := { program := "ytcepbpjdcfkgcaa", sum := "9e7b18d14f773aa734ad06bfc869468f236bd2beaed5cbe57e887752f63e1472", func := "pub-eidograph/laws.FnOrderRingsAgain", spec := "fnOrderRingsAgain", inPlace := ["math.Float64bits", "math.Float64frombits", "math.archTrunc", "internal/reflectlite.ValueOf", "internal/reflectlite.Swapper", "(internal/reflectlite.Value).Len"], unfollowed := true, recurses := true, loops := true, apart := false }
def FnOrderRingsAgainSaid : Prop := fnOrderRingsAgainRow.holds Try.pinned (OpenSpec.ofChange fnOrderRingsAgainSpec)

/-- ITS FALSE NEIGHBOUR: 'it returns false'. Refute it at one input. -/
def fnOrderRingsAgainWrong : ChangeSpec := { name := "fnOrderRingsAgain", fn := fun _ => fun
  | [d1, d2] => { results := [.lit (.bool false)], args := [d1, d2] }
  | _ => none }
def FnOrderRingsAgainWrongFalsely : Prop := fnOrderRingsAgainRow.holds Try.pinned (OpenSpec.ofChange fnOrderRingsAgainWrong)

/- THE SECOND FORM. 'bulk': how many values and letters a reading holds, each counted each time it is reached (what is shared counts as often as it is met; a slice's spare places count too). A statement '..UptoSaid' is the law's where the arguments, and the package variables that the reading takes, are together of bulk at most 1048576: NARROWER than '..Said'. Prove '..Said' where nothing that the law and all that it calls make is longer than what came in: it says more and counts as full. Else prove '..UptoSaid'. A law counts once. -/
mutual
def uptoBulk {H : Type} : DataW H → Nat
  | .lit (.string bytes) => bytes.length + 1
  | .lit _ => 1
  | .nil => 1
  | .ptr d => uptoBulk d + 1
  | .slice elems spare => uptoBulkAll elems + uptoBulkAll spare + 1
  | .agg parts => uptoBulkAll parts + 1
  | .iface _ d => uptoBulk d + 1
  | .map entries => uptoBulkEntries entries + 1
  | .held _ => 1
def uptoBulkAll {H : Type} : List (DataW H) → Nat
  | [] => 0
  | d :: r => uptoBulk d + uptoBulkAll r
def uptoBulkEntries {H : Type} : List (Lit × DataW H) → Nat
  | [] => 0
  | x :: r => uptoBulkEntry x + uptoBulkEntries r
def uptoBulkEntry {H : Type} : Lit × DataW H → Nat
  | (.string bytes, d) => bytes.length + uptoBulk d + 1
  | (_, d) => uptoBulk d + 1
 end
def uptoSmall : (H : Type) → List (DataW H) → Bool := fun _ ds => decide (uptoBulkAll ds ≤ 1048576)
def OpenSpec.upto (s : _root_.Go.ChangeSpec) : _root_.Go.OpenSpec := { _root_.Go.OpenSpec.ofChange s with cond := some uptoSmall }

/-- 'laws.FnRingOf', WHERE WHAT IT READS IS OF BULK AT MOST 1048576: true; the input reads as it did. -/
def fnRingOfUptoRow : OpenClaim := { program := "ytcepbpjdcfkgcaa", sum := "9e7b18d14f773aa734ad06bfc869468f236bd2beaed5cbe57e887752f63e1472", func := "pub-eidograph/laws.FnRingOf", spec := "fnRingOf", unfollowed := true, recurses := true, loops := true, apart := false, narrowed := true }
def FnRingOfUptoSaid : Prop := fnRingOfUptoRow.holds Try.pinned (OpenSpec.upto fnRingOfSpec)

/-- 'laws.FnOrderRingsAgain', WHERE WHAT IT READS IS OF BULK AT MOST 1048576: true; the input reads as it did. -/
def fnOrderRingsAgainUptoRow : OpenClaim := { program := "ytcepbpjdcfkgcaa", sum := "9e7b18d14f773aa734ad06bfc869468f236bd2beaed5cbe57e887752f63e1472", func := "pub-eidograph/laws.FnOrderRingsAgain", spec := "fnOrderRingsAgain", inPlace := ["math.Float64bits", "math.Float64frombits", "math.archTrunc", "internal/reflectlite.ValueOf", "internal/reflectlite.Swapper", "(internal/reflectlite.Value).Len"], unfollowed := true, recurses := true, loops := true, apart := false, narrowed := true }
def FnOrderRingsAgainUptoSaid : Prop := fnOrderRingsAgainUptoRow.holds Try.pinned (OpenSpec.upto fnOrderRingsAgainSpec)

end Rows
end Go.Proofs.Ytcepbpjdcfkgcaa
