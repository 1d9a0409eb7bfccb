/-
  NARROWER THAN 'FOR EVERY INPUT', by the rows' own cells (each row's printed sentence says how): FnPlaces: loops · FnHullPlaces: loops · FnNewOf: loops · FnWriteMany: loops · FnManyOrders: loops.
  DERIVED. THE GIVEN ROWS OF THIS SEAT. 6 by the template 'for every input the law returns true; each argument reads behind the call as it read before'; 0 by the template 'total and deterministic' (their statements: YtbakhldjfplbfaaGreatTotals.lean).
  GIVEN WITH THE SEED: the statements are not yours to turn. If you find one false, say at which input.
  Laid BY PROGRAM, IN A SANDBOX (cutbox-rows.mjs): the forced cells as the released guide's own fill.sh prints them over the translation e1ac967838c87144… (all of the seat's roots in one cut). By AI agents, Wed Nov 11 2026. No macro, syntax, notation, axiom, sorry.
-/
import Derived.Test.YtbakhldjfplbfaaGreatChecked
import GoSem.Claim
import GoSem.ClaimJoined
import GoSem.ClaimMapViews
import Derived.JoinedTies
import Derived.KernelRfl
namespace Go.Proofs.YtbakhldjfplbfaaGreat
/- THE CELL 'sum', in the pinned program and in every row, IS THE sha256 OF THE DUMP (.gsa) THAT YtbakhldjfplbfaaGreatProg.lean LOADS. Nothing in Lean hashes anything: it is a label: what it is worth is what the hold of that sum in a sandbox is worth. -/
noncomputable def Tryz.pinned : Pinned := { name := "ytbakhldjfplbfaagreat", sum := "e1ac967838c87144754fd1837bfe8192769866310bd0bf04e051c8f59577e496", checked := Tryz.checked }
namespace Rows
def none {H : Type} : Left H := { results := [], args := [] }

/-- 'laws.FnPlaces': WHATEVER THE INPUT: true; the input reads as it did. -/
def fnPlacesSpec : ChangeSpec := { name := "fnPlaces", fn := fun _ => fun
  | [d] => { results := [.lit (.bool true)], args := [d] }
  | _ => none }
def fnPlacesRow : OpenClaim := { program := "ytbakhldjfplbfaagreat", sum := "e1ac967838c87144754fd1837bfe8192769866310bd0bf04e051c8f59577e496", func := "pub-eidograph/laws.FnPlaces", spec := "fnPlaces", recurses := true, loops := true, apart := false }
def FnPlacesSaid : Prop := fnPlacesRow.holds Tryz.pinned (OpenSpec.ofChange fnPlacesSpec)

/-- ITS FALSE NEIGHBOUR: 'it returns false'. Refute it at one input. -/
def fnPlacesWrong : ChangeSpec := { name := "fnPlaces", fn := fun _ => fun
  | [d] => { results := [.lit (.bool false)], args := [d] }
  | _ => none }
def FnPlacesWrongFalsely : Prop := fnPlacesRow.holds Tryz.pinned (OpenSpec.ofChange fnPlacesWrong)

/-- 'laws.FnHullPlaces': WHATEVER THE INPUT: true; the input reads as it did. -/
def fnHullPlacesSpec : ChangeSpec := { name := "fnHullPlaces", fn := fun _ => fun
  | [d] => { results := [.lit (.bool true)], args := [d] }
  | _ => none }
def fnHullPlacesRow : OpenClaim := { program := "ytbakhldjfplbfaagreat", sum := "e1ac967838c87144754fd1837bfe8192769866310bd0bf04e051c8f59577e496", func := "pub-eidograph/laws.FnHullPlaces", spec := "fnHullPlaces", recurses := true, loops := true, apart := false }
def FnHullPlacesSaid : Prop := fnHullPlacesRow.holds Tryz.pinned (OpenSpec.ofChange fnHullPlacesSpec)

/-- ITS FALSE NEIGHBOUR: 'it returns false'. Refute it at one input. -/
def fnHullPlacesWrong : ChangeSpec := { name := "fnHullPlaces", fn := fun _ => fun
  | [d] => { results := [.lit (.bool false)], args := [d] }
  | _ => none }
def FnHullPlacesWrongFalsely : Prop := fnHullPlacesRow.holds Tryz.pinned (OpenSpec.ofChange fnHullPlacesWrong)

/-- 'laws.FnNewOf': WHATEVER THE INPUT: true; the input reads as it did. -/
def fnNewOfSpec : ChangeSpec := { name := "fnNewOf", fn := fun _ => fun
  | [d1, d2] => { results := [.lit (.bool true)], args := [d1, d2] }
  | _ => none }
def fnNewOfRow : OpenClaim := { program := "ytbakhldjfplbfaagreat", sum := "e1ac967838c87144754fd1837bfe8192769866310bd0bf04e051c8f59577e496", func := "pub-eidograph/laws.FnNewOf", spec := "fnNewOf", recurses := true, loops := true, apart := false }
def FnNewOfSaid : Prop := fnNewOfRow.holds Tryz.pinned (OpenSpec.ofChange fnNewOfSpec)

/-- ITS FALSE NEIGHBOUR: 'it returns false'. Refute it at one input. -/
def fnNewOfWrong : ChangeSpec := { name := "fnNewOf", fn := fun _ => fun
  | [d1, d2] => { results := [.lit (.bool false)], args := [d1, d2] }
  | _ => none }
def FnNewOfWrongFalsely : Prop := fnNewOfRow.holds Tryz.pinned (OpenSpec.ofChange fnNewOfWrong)

/-- 'laws.FnWriteMany': WHATEVER THE INPUT: true; the input reads as it did. -/
def fnWriteManySpec : ChangeSpec := { name := "fnWriteMany", fn := fun _ => fun
  | [d1, d2] => { results := [.lit (.bool true)], args := [d1, d2] }
  | _ => none }
def fnWriteManyRow : OpenClaim := { program := "ytbakhldjfplbfaagreat", sum := "e1ac967838c87144754fd1837bfe8192769866310bd0bf04e051c8f59577e496", func := "pub-eidograph/laws.FnWriteMany", spec := "fnWriteMany", inPlace := ["math.Float64bits", "math.Float64frombits"], recurses := true, named := ["encoding/binary.LittleEndian"], loops := true, apart := false }
def FnWriteManySaid : Prop := fnWriteManyRow.holds Tryz.pinned (OpenSpec.ofChange fnWriteManySpec)

/-- ITS FALSE NEIGHBOUR: 'it returns false'. Refute it at one input. -/
def fnWriteManyWrong : ChangeSpec := { name := "fnWriteMany", fn := fun _ => fun
  | [d1, d2] => { results := [.lit (.bool false)], args := [d1, d2] }
  | _ => none }
def FnWriteManyWrongFalsely : Prop := fnWriteManyRow.holds Tryz.pinned (OpenSpec.ofChange fnWriteManyWrong)

/-- 'laws.FnRunSplit': WHATEVER THE INPUT: true; the input reads as it did. -/
def fnRunSplitSpec : ChangeSpec := { name := "fnRunSplit", fn := fun _ => fun
  | [d1, d2] => { results := [.lit (.bool true)], args := [d1, d2] }
  | _ => none }
def fnRunSplitRow : OpenClaim := { program := "ytbakhldjfplbfaagreat", sum := "e1ac967838c87144754fd1837bfe8192769866310bd0bf04e051c8f59577e496", func := "pub-eidograph/laws.FnRunSplit", spec := "fnRunSplit", inPlace := ["math.sqrt", "math.Float64bits", "math.Float64frombits"], unfollowed := true, recurses := true, apart := false }
def FnRunSplitSaid : Prop := fnRunSplitRow.holds Tryz.pinned (OpenSpec.ofChange fnRunSplitSpec)

/-- ITS FALSE NEIGHBOUR: 'it returns false'. Refute it at one input. -/
def fnRunSplitWrong : ChangeSpec := { name := "fnRunSplit", fn := fun _ => fun
  | [d1, d2] => { results := [.lit (.bool false)], args := [d1, d2] }
  | _ => none }
def FnRunSplitWrongFalsely : Prop := fnRunSplitRow.holds Tryz.pinned (OpenSpec.ofChange fnRunSplitWrong)

/-- 'laws.FnManyOrders': WHATEVER THE INPUT: true; the input reads as it did. -/
def fnManyOrdersSpec : ChangeSpec := { name := "fnManyOrders", fn := fun _ => fun
  | [d1, d2] => { results := [.lit (.bool true)], args := [d1, d2] }
  | _ => none }
def fnManyOrdersRow : OpenClaim := { program := "ytbakhldjfplbfaagreat", sum := "e1ac967838c87144754fd1837bfe8192769866310bd0bf04e051c8f59577e496", func := "pub-eidograph/laws.FnManyOrders", spec := "fnManyOrders", inPlace := ["math.Float64bits", "math.Float64frombits"], recurses := true, named := ["encoding/binary.BigEndian", "encoding/binary.LittleEndian"], loops := true, apart := false }
def FnManyOrdersSaid : Prop := fnManyOrdersRow.holds Tryz.pinned (OpenSpec.ofChange fnManyOrdersSpec)

/-- ITS FALSE NEIGHBOUR: 'it returns false'. Refute it at one input. -/
def fnManyOrdersWrong : ChangeSpec := { name := "fnManyOrders", fn := fun _ => fun
  | [d1, d2] => { results := [.lit (.bool false)], args := [d1, d2] }
  | _ => none }
def FnManyOrdersWrongFalsely : Prop := fnManyOrdersRow.holds Tryz.pinned (OpenSpec.ofChange fnManyOrdersWrong)

/- THE SECOND FORM. 'bulk': how many values and letters a reading holds, each counted each time it is reached (what is shared counts as often as it is met; a slice's spare places count too). A statement '..UptoSaid' is the law's where the arguments, and the package variables that the reading takes, are together of bulk at most 1048576: NARROWER than '..Said'. Prove '..Said' where nothing that the law and all that it calls make is longer than what came in: it says more and counts as full. Else prove '..UptoSaid'. A law counts once. -/
mutual
def uptoBulk {H : Type} : DataW H → Nat
  | .lit (.string bytes) => bytes.length + 1
  | .lit _ => 1
  | .nil => 1
  | .ptr d => uptoBulk d + 1
  | .slice elems spare => uptoBulkAll elems + uptoBulkAll spare + 1
  | .agg parts => uptoBulkAll parts + 1
  | .iface _ d => uptoBulk d + 1
  | .map entries => uptoBulkEntries entries + 1
  | .held _ => 1
def uptoBulkAll {H : Type} : List (DataW H) → Nat
  | [] => 0
  | d :: r => uptoBulk d + uptoBulkAll r
def uptoBulkEntries {H : Type} : List (Lit × DataW H) → Nat
  | [] => 0
  | x :: r => uptoBulkEntry x + uptoBulkEntries r
def uptoBulkEntry {H : Type} : Lit × DataW H → Nat
  | (.string bytes, d) => bytes.length + uptoBulk d + 1
  | (_, d) => uptoBulk d + 1
 end
def uptoSmall : (H : Type) → List (DataW H) → Bool := fun _ ds => decide (uptoBulkAll ds ≤ 1048576)
def OpenSpec.upto (s : _root_.Go.ChangeSpec) : _root_.Go.OpenSpec := { _root_.Go.OpenSpec.ofChange s with cond := some uptoSmall }

/-- 'laws.FnPlaces', WHERE WHAT IT READS IS OF BULK AT MOST 1048576: true; the input reads as it did. -/
def fnPlacesUptoRow : OpenClaim := { program := "ytbakhldjfplbfaagreat", sum := "e1ac967838c87144754fd1837bfe8192769866310bd0bf04e051c8f59577e496", func := "pub-eidograph/laws.FnPlaces", spec := "fnPlaces", recurses := true, loops := true, apart := false, narrowed := true }
def FnPlacesUptoSaid : Prop := fnPlacesUptoRow.holds Tryz.pinned (OpenSpec.upto fnPlacesSpec)

/-- 'laws.FnHullPlaces', WHERE WHAT IT READS IS OF BULK AT MOST 1048576: true; the input reads as it did. -/
def fnHullPlacesUptoRow : OpenClaim := { program := "ytbakhldjfplbfaagreat", sum := "e1ac967838c87144754fd1837bfe8192769866310bd0bf04e051c8f59577e496", func := "pub-eidograph/laws.FnHullPlaces", spec := "fnHullPlaces", recurses := true, loops := true, apart := false, narrowed := true }
def FnHullPlacesUptoSaid : Prop := fnHullPlacesUptoRow.holds Tryz.pinned (OpenSpec.upto fnHullPlacesSpec)

/-- 'laws.FnNewOf', WHERE WHAT IT READS IS OF BULK AT MOST 1048576: true; the input reads as it did. -/
def fnNewOfUptoRow : OpenClaim := { program := "ytbakhldjfplbfaagreat", sum := "e1ac967838c87144754fd1837bfe8192769866310bd0bf04e051c8f59577e496", func := "pub-eidograph/laws.FnNewOf", spec := "fnNewOf", recurses := true, loops := true, apart := false, narrowed := true }
def FnNewOfUptoSaid : Prop := fnNewOfUptoRow.holds Tryz.pinned (OpenSpec.upto fnNewOfSpec)

/-- 'laws.FnWriteMany', WHERE WHAT IT READS IS OF BULK AT MOST 1048576: true; the input reads as it did. -/
def fnWriteManyUptoRow : OpenClaim := { program := "ytbakhldjfplbfaagreat", sum := "e1ac967838c87144754fd1837bfe8192769866310bd0bf04e051c8f59577e496", func := "pub-eidograph/laws.FnWriteMany", spec := "fnWriteMany", inPlace := ["math.Float64bits", "math.Float64frombits"], recurses := true, named := ["encoding/binary.LittleEndian"], loops := true, apart := false, narrowed := true }
def FnWriteManyUptoSaid : Prop := fnWriteManyUptoRow.holds Tryz.pinned (OpenSpec.upto fnWriteManySpec)

/-- 'laws.FnRunSplit', WHERE WHAT IT READS IS OF BULK AT MOST 1048576: true; the input reads as it did. -/
def fnRunSplitUptoRow : OpenClaim := { program := "ytbakhldjfplbfaagreat", sum := "e1ac967838c87144754fd1837bfe8192769866310bd0bf04e051c8f59577e496", func := "pub-eidograph/laws.FnRunSplit", spec := "fnRunSplit", inPlace := ["math.sqrt", "math.Float64bits", "math.Float64frombits"], unfollowed := true, recurses := true, apart := false, narrowed := true }
def FnRunSplitUptoSaid : Prop := fnRunSplitUptoRow.holds Tryz.pinned (OpenSpec.upto fnRunSplitSpec)

/-- 'laws.FnManyOrders', WHERE WHAT IT READS IS OF BULK AT MOST 1048576: true; the input reads as it did. -/
def fnManyOrdersUptoRow : OpenClaim := { program := "ytbakhldjfplbfaagreat", sum := "e1ac967838c87144754fd1837bfe8192769866310bd0bf04e051c8f59577e496", func := "pub-eidograph/laws.FnManyOrders", spec := "fnManyOrders", inPlace := ["math.Float64bits", "math.Float64frombits"], recurses := true, named := ["encoding/binary.BigEndian", "encoding/binary.LittleEndian"], loops := true, apart := false, narrowed := true }
def FnManyOrdersUptoSaid : Prop := fnManyOrdersUptoRow.holds Tryz.pinned (OpenSpec.upto fnManyOrdersSpec)

end Rows
end Go.Proofs.YtbakhldjfplbfaaGreat
