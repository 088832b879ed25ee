/-
  No cell of these rows narrows 'for every input' (looked for: loops, veiled, ifaces, maps, wideKeys, modest, calm, conditions, laid).
  DERIVED. THE GIVEN ROWS OF THIS SEAT. 10 by the template 'for every input the law returns true; each argument reads behind the call as it read before'; 0 by the template 'total and deterministic' (their statements: YtjgclomokekogaaTotals.lean).
  GIVEN WITH THE SEED: the statements are not yours to turn. If you find one false, say at which input.
  Laid BY PROGRAM, IN A SANDBOX (cutbox-rows.mjs): the forced cells as the released guide's own fill.sh prints them over the translation db1b34e619ce7fa5… (all of the seat's roots in one cut). By AI agents, Wed Nov 11 2026. No macro, syntax, notation, axiom, sorry.
-/
import Derived.Test.YtjgclomokekogaaChecked
import GoSem.Claim
import GoSem.ClaimJoined
import GoSem.ClaimMapViews
import Derived.JoinedTies
import Derived.KernelRfl
namespace Go.Proofs.Ytjgclomokekogaa
/- THE CELL 'sum', in the pinned program and in every row, IS THE sha256 OF THE DUMP (.gsa) THAT YtjgclomokekogaaProg.lean LOADS. Nothing in Lean hashes anything: it is a label: what it is worth is what the hold of that sum in a sandbox is worth. -/
noncomputable def Try.pinned : Pinned := { name := "ytjgclomokekogaa", sum := "db1b34e619ce7fa5bf9d7314ffdb8ae069b77b312a3015170e09401270b20352", checked := Try.checked }
namespace Rows
def none {H : Type} : Left H := { results := [], args := [] }

/-- 'laws.FnEncode': WHATEVER THE INPUT: true; the input reads as it did. -/
def fnEncodeSpec : ChangeSpec := { name := "fnEncode", fn := fun _ => fun
  | [d1, d2, d3] => { results := [.lit (.bool true)], args := [d1, d2, d3] }
  | _ => none }
def fnEncodeRow : OpenClaim := { program := "ytjgclomokekogaa", sum := "db1b34e619ce7fa5bf9d7314ffdb8ae069b77b312a3015170e09401270b20352", func := "zxreedsolomon/laws.FnEncode", spec := "fnEncode", unfollowed := true, recurses := true, apart := false }
def FnEncodeSaid : Prop := fnEncodeRow.holds Try.pinned (OpenSpec.ofChange fnEncodeSpec)

/-- ITS FALSE NEIGHBOUR: 'it returns false'. Refute it at one input. -/
def fnEncodeWrong : ChangeSpec := { name := "fnEncode", fn := fun _ => fun
  | [d1, d2, d3] => { results := [.lit (.bool false)], args := [d1, d2, d3] }
  | _ => none }
def FnEncodeWrongFalsely : Prop := fnEncodeRow.holds Try.pinned (OpenSpec.ofChange fnEncodeWrong)

/-- 'laws.FnRoots': WHATEVER THE INPUT: true; the input reads as it did. -/
def fnRootsSpec : ChangeSpec := { name := "fnRoots", fn := fun _ => fun
  | [d1, d2, d3] => { results := [.lit (.bool true)], args := [d1, d2, d3] }
  | _ => none }
def fnRootsRow : OpenClaim := { program := "ytjgclomokekogaa", sum := "db1b34e619ce7fa5bf9d7314ffdb8ae069b77b312a3015170e09401270b20352", func := "zxreedsolomon/laws.FnRoots", spec := "fnRoots", unfollowed := true, recurses := true, apart := false }
def FnRootsSaid : Prop := fnRootsRow.holds Try.pinned (OpenSpec.ofChange fnRootsSpec)

/-- ITS FALSE NEIGHBOUR: 'it returns false'. Refute it at one input. -/
def fnRootsWrong : ChangeSpec := { name := "fnRoots", fn := fun _ => fun
  | [d1, d2, d3] => { results := [.lit (.bool false)], args := [d1, d2, d3] }
  | _ => none }
def FnRootsWrongFalsely : Prop := fnRootsRow.holds Try.pinned (OpenSpec.ofChange fnRootsWrong)

/-- 'laws.FnDividePoly': WHATEVER THE INPUT: true; the input reads as it did. -/
def fnDividePolySpec : ChangeSpec := { name := "fnDividePoly", fn := fun _ => fun
  | [d1, d2, d3] => { results := [.lit (.bool true)], args := [d1, d2, d3] }
  | _ => none }
def fnDividePolyRow : OpenClaim := { program := "ytjgclomokekogaa", sum := "db1b34e619ce7fa5bf9d7314ffdb8ae069b77b312a3015170e09401270b20352", func := "zxreedsolomon/laws.FnDividePoly", spec := "fnDividePoly", unfollowed := true, recurses := true, apart := false }
def FnDividePolySaid : Prop := fnDividePolyRow.holds Try.pinned (OpenSpec.ofChange fnDividePolySpec)

/-- ITS FALSE NEIGHBOUR: 'it returns false'. Refute it at one input. -/
def fnDividePolyWrong : ChangeSpec := { name := "fnDividePoly", fn := fun _ => fun
  | [d1, d2, d3] => { results := [.lit (.bool false)], args := [d1, d2, d3] }
  | _ => none }
def FnDividePolyWrongFalsely : Prop := fnDividePolyRow.holds Try.pinned (OpenSpec.ofChange fnDividePolyWrong)

/-- 'laws.FnAddPoly': WHATEVER THE INPUT: true; the input reads as it did. -/
def fnAddPolySpec : ChangeSpec := { name := "fnAddPoly", fn := fun _ => fun
  | [d1, d2, d3] => { results := [.lit (.bool true)], args := [d1, d2, d3] }
  | _ => none }
def fnAddPolyRow : OpenClaim := { program := "ytjgclomokekogaa", sum := "db1b34e619ce7fa5bf9d7314ffdb8ae069b77b312a3015170e09401270b20352", func := "zxreedsolomon/laws.FnAddPoly", spec := "fnAddPoly", unfollowed := true, recurses := true, apart := false }
def FnAddPolySaid : Prop := fnAddPolyRow.holds Try.pinned (OpenSpec.ofChange fnAddPolySpec)

/-- ITS FALSE NEIGHBOUR: 'it returns false'. Refute it at one input. -/
def fnAddPolyWrong : ChangeSpec := { name := "fnAddPoly", fn := fun _ => fun
  | [d1, d2, d3] => { results := [.lit (.bool false)], args := [d1, d2, d3] }
  | _ => none }
def FnAddPolyWrongFalsely : Prop := fnAddPolyRow.holds Try.pinned (OpenSpec.ofChange fnAddPolyWrong)

/-- 'laws.FnMultiplyPoly': WHATEVER THE INPUT: true; the input reads as it did. -/
def fnMultiplyPolySpec : ChangeSpec := { name := "fnMultiplyPoly", fn := fun _ => fun
  | [d1, d2, d3] => { results := [.lit (.bool true)], args := [d1, d2, d3] }
  | _ => none }
def fnMultiplyPolyRow : OpenClaim := { program := "ytjgclomokekogaa", sum := "db1b34e619ce7fa5bf9d7314ffdb8ae069b77b312a3015170e09401270b20352", func := "zxreedsolomon/laws.FnMultiplyPoly", spec := "fnMultiplyPoly", unfollowed := true, recurses := true, apart := false }
def FnMultiplyPolySaid : Prop := fnMultiplyPolyRow.holds Try.pinned (OpenSpec.ofChange fnMultiplyPolySpec)

/-- ITS FALSE NEIGHBOUR: 'it returns false'. Refute it at one input. -/
def fnMultiplyPolyWrong : ChangeSpec := { name := "fnMultiplyPoly", fn := fun _ => fun
  | [d1, d2, d3] => { results := [.lit (.bool false)], args := [d1, d2, d3] }
  | _ => none }
def FnMultiplyPolyWrongFalsely : Prop := fnMultiplyPolyRow.holds Try.pinned (OpenSpec.ofChange fnMultiplyPolyWrong)

/-- 'laws.FnByMonomial': WHATEVER THE INPUT: true; the input reads as it did. -/
def fnByMonomialSpec : ChangeSpec := { name := "fnByMonomial", fn := fun _ => fun
  | [d1, d2, d3, d4] => { results := [.lit (.bool true)], args := [d1, d2, d3, d4] }
  | _ => none }
def fnByMonomialRow : OpenClaim := { program := "ytjgclomokekogaa", sum := "db1b34e619ce7fa5bf9d7314ffdb8ae069b77b312a3015170e09401270b20352", func := "zxreedsolomon/laws.FnByMonomial", spec := "fnByMonomial", unfollowed := true, recurses := true, apart := false }
def FnByMonomialSaid : Prop := fnByMonomialRow.holds Try.pinned (OpenSpec.ofChange fnByMonomialSpec)

/-- ITS FALSE NEIGHBOUR: 'it returns false'. Refute it at one input. -/
def fnByMonomialWrong : ChangeSpec := { name := "fnByMonomial", fn := fun _ => fun
  | [d1, d2, d3, d4] => { results := [.lit (.bool false)], args := [d1, d2, d3, d4] }
  | _ => none }
def FnByMonomialWrongFalsely : Prop := fnByMonomialRow.holds Try.pinned (OpenSpec.ofChange fnByMonomialWrong)

/-- 'laws.FnScalePoly': WHATEVER THE INPUT: true; the input reads as it did. -/
def fnScalePolySpec : ChangeSpec := { name := "fnScalePoly", fn := fun _ => fun
  | [d1, d2, d3] => { results := [.lit (.bool true)], args := [d1, d2, d3] }
  | _ => none }
def fnScalePolyRow : OpenClaim := { program := "ytjgclomokekogaa", sum := "db1b34e619ce7fa5bf9d7314ffdb8ae069b77b312a3015170e09401270b20352", func := "zxreedsolomon/laws.FnScalePoly", spec := "fnScalePoly", unfollowed := true, recurses := true, apart := false }
def FnScalePolySaid : Prop := fnScalePolyRow.holds Try.pinned (OpenSpec.ofChange fnScalePolySpec)

/-- ITS FALSE NEIGHBOUR: 'it returns false'. Refute it at one input. -/
def fnScalePolyWrong : ChangeSpec := { name := "fnScalePoly", fn := fun _ => fun
  | [d1, d2, d3] => { results := [.lit (.bool false)], args := [d1, d2, d3] }
  | _ => none }
def FnScalePolyWrongFalsely : Prop := fnScalePolyRow.holds Try.pinned (OpenSpec.ofChange fnScalePolyWrong)

/-- 'laws.FnCorrects': WHATEVER THE INPUT: true; the input reads as it did. -/
def fnCorrectsSpec : ChangeSpec := { name := "fnCorrects", fn := fun _ => fun
  | [d1, d2, d3, d4, d5] => { results := [.lit (.bool true)], args := [d1, d2, d3, d4, d5] }
  | _ => none }
def fnCorrectsRow : OpenClaim := { program := "ytjgclomokekogaa", sum := "db1b34e619ce7fa5bf9d7314ffdb8ae069b77b312a3015170e09401270b20352", func := "zxreedsolomon/laws.FnCorrects", spec := "fnCorrects", unfollowed := true, recurses := true, apart := false }
def FnCorrectsSaid : Prop := fnCorrectsRow.holds Try.pinned (OpenSpec.ofChange fnCorrectsSpec)

/-- ITS FALSE NEIGHBOUR: 'it returns false'. Refute it at one input. -/
def fnCorrectsWrong : ChangeSpec := { name := "fnCorrects", fn := fun _ => fun
  | [d1, d2, d3, d4, d5] => { results := [.lit (.bool false)], args := [d1, d2, d3, d4, d5] }
  | _ => none }
def FnCorrectsWrongFalsely : Prop := fnCorrectsRow.holds Try.pinned (OpenSpec.ofChange fnCorrectsWrong)

/-- 'laws.FnFound': WHATEVER THE INPUT: true; the input reads as it did. -/
def fnFoundSpec : ChangeSpec := { name := "fnFound", fn := fun _ => fun
  | [d1, d2, d3] => { results := [.lit (.bool true)], args := [d1, d2, d3] }
  | _ => none }
def fnFoundRow : OpenClaim := { program := "ytjgclomokekogaa", sum := "db1b34e619ce7fa5bf9d7314ffdb8ae069b77b312a3015170e09401270b20352", func := "zxreedsolomon/laws.FnFound", spec := "fnFound", unfollowed := true, recurses := true, apart := false }
def FnFoundSaid : Prop := fnFoundRow.holds Try.pinned (OpenSpec.ofChange fnFoundSpec)

/-- ITS FALSE NEIGHBOUR: 'it returns false'. Refute it at one input. -/
def fnFoundWrong : ChangeSpec := { name := "fnFound", fn := fun _ => fun
  | [d1, d2, d3] => { results := [.lit (.bool false)], args := [d1, d2, d3] }
  | _ => none }
def FnFoundWrongFalsely : Prop := fnFoundRow.holds Try.pinned (OpenSpec.ofChange fnFoundWrong)

/-- 'laws.FnRoad': WHATEVER THE INPUT: true; the input reads as it did. -/
def fnRoadSpec : ChangeSpec := { name := "fnRoad", fn := fun _ => fun
  | [d1, d2, d3, d4, d5] => { results := [.lit (.bool true)], args := [d1, d2, d3, d4, d5] }
  | _ => none }
def fnRoadRow : OpenClaim := { program := "ytjgclomokekogaa", sum := "db1b34e619ce7fa5bf9d7314ffdb8ae069b77b312a3015170e09401270b20352", func := "zxreedsolomon/laws.FnRoad", spec := "fnRoad", unfollowed := true, recurses := true, apart := false }
def FnRoadSaid : Prop := fnRoadRow.holds Try.pinned (OpenSpec.ofChange fnRoadSpec)

/-- ITS FALSE NEIGHBOUR: 'it returns false'. Refute it at one input. -/
def fnRoadWrong : ChangeSpec := { name := "fnRoad", fn := fun _ => fun
  | [d1, d2, d3, d4, d5] => { results := [.lit (.bool false)], args := [d1, d2, d3, d4, d5] }
  | _ => none }
def FnRoadWrongFalsely : Prop := fnRoadRow.holds Try.pinned (OpenSpec.ofChange fnRoadWrong)

/- THE SECOND FORM. 'bulk': how many values and letters a reading holds, each counted each time it is reached (what is shared counts as often as it is met; a slice's spare places count too). A statement '..UptoSaid' is the law's where the arguments, and the package variables that the reading takes, are together of bulk at most 1048576: NARROWER than '..Said'. Prove '..Said' where nothing that the law and all that it calls make is longer than what came in: it says more and counts as full. Else prove '..UptoSaid'. A law counts once. -/
mutual
def uptoBulk {H : Type} : DataW H → Nat
  | .lit (.string bytes) => bytes.length + 1
  | .lit _ => 1
  | .nil => 1
  | .ptr d => uptoBulk d + 1
  | .slice elems spare => uptoBulkAll elems + uptoBulkAll spare + 1
  | .agg parts => uptoBulkAll parts + 1
  | .iface _ d => uptoBulk d + 1
  | .map entries => uptoBulkEntries entries + 1
  | .held _ => 1
def uptoBulkAll {H : Type} : List (DataW H) → Nat
  | [] => 0
  | d :: r => uptoBulk d + uptoBulkAll r
def uptoBulkEntries {H : Type} : List (Lit × DataW H) → Nat
  | [] => 0
  | x :: r => uptoBulkEntry x + uptoBulkEntries r
def uptoBulkEntry {H : Type} : Lit × DataW H → Nat
  | (.string bytes, d) => bytes.length + uptoBulk d + 1
  | (_, d) => uptoBulk d + 1
 end
def uptoSmall : (H : Type) → List (DataW H) → Bool := fun _ ds => decide (uptoBulkAll ds ≤ 1048576)
def OpenSpec.upto (s : _root_.Go.ChangeSpec) : _root_.Go.OpenSpec := { _root_.Go.OpenSpec.ofChange s with cond := some uptoSmall }

/-- 'laws.FnEncode', WHERE WHAT IT READS IS OF BULK AT MOST 1048576: true; the input reads as it did. -/
def fnEncodeUptoRow : OpenClaim := { program := "ytjgclomokekogaa", sum := "db1b34e619ce7fa5bf9d7314ffdb8ae069b77b312a3015170e09401270b20352", func := "zxreedsolomon/laws.FnEncode", spec := "fnEncode", unfollowed := true, recurses := true, apart := false, narrowed := true }
def FnEncodeUptoSaid : Prop := fnEncodeUptoRow.holds Try.pinned (OpenSpec.upto fnEncodeSpec)

/-- 'laws.FnRoots', WHERE WHAT IT READS IS OF BULK AT MOST 1048576: true; the input reads as it did. -/
def fnRootsUptoRow : OpenClaim := { program := "ytjgclomokekogaa", sum := "db1b34e619ce7fa5bf9d7314ffdb8ae069b77b312a3015170e09401270b20352", func := "zxreedsolomon/laws.FnRoots", spec := "fnRoots", unfollowed := true, recurses := true, apart := false, narrowed := true }
def FnRootsUptoSaid : Prop := fnRootsUptoRow.holds Try.pinned (OpenSpec.upto fnRootsSpec)

/-- 'laws.FnDividePoly', WHERE WHAT IT READS IS OF BULK AT MOST 1048576: true; the input reads as it did. -/
def fnDividePolyUptoRow : OpenClaim := { program := "ytjgclomokekogaa", sum := "db1b34e619ce7fa5bf9d7314ffdb8ae069b77b312a3015170e09401270b20352", func := "zxreedsolomon/laws.FnDividePoly", spec := "fnDividePoly", unfollowed := true, recurses := true, apart := false, narrowed := true }
def FnDividePolyUptoSaid : Prop := fnDividePolyUptoRow.holds Try.pinned (OpenSpec.upto fnDividePolySpec)

/-- 'laws.FnAddPoly', WHERE WHAT IT READS IS OF BULK AT MOST 1048576: true; the input reads as it did. -/
def fnAddPolyUptoRow : OpenClaim := { program := "ytjgclomokekogaa", sum := "db1b34e619ce7fa5bf9d7314ffdb8ae069b77b312a3015170e09401270b20352", func := "zxreedsolomon/laws.FnAddPoly", spec := "fnAddPoly", unfollowed := true, recurses := true, apart := false, narrowed := true }
def FnAddPolyUptoSaid : Prop := fnAddPolyUptoRow.holds Try.pinned (OpenSpec.upto fnAddPolySpec)

/-- 'laws.FnMultiplyPoly', WHERE WHAT IT READS IS OF BULK AT MOST 1048576: true; the input reads as it did. -/
def fnMultiplyPolyUptoRow : OpenClaim := { program := "ytjgclomokekogaa", sum := "db1b34e619ce7fa5bf9d7314ffdb8ae069b77b312a3015170e09401270b20352", func := "zxreedsolomon/laws.FnMultiplyPoly", spec := "fnMultiplyPoly", unfollowed := true, recurses := true, apart := false, narrowed := true }
def FnMultiplyPolyUptoSaid : Prop := fnMultiplyPolyUptoRow.holds Try.pinned (OpenSpec.upto fnMultiplyPolySpec)

/-- 'laws.FnByMonomial', WHERE WHAT IT READS IS OF BULK AT MOST 1048576: true; the input reads as it did. -/
def fnByMonomialUptoRow : OpenClaim := { program := "ytjgclomokekogaa", sum := "db1b34e619ce7fa5bf9d7314ffdb8ae069b77b312a3015170e09401270b20352", func := "zxreedsolomon/laws.FnByMonomial", spec := "fnByMonomial", unfollowed := true, recurses := true, apart := false, narrowed := true }
def FnByMonomialUptoSaid : Prop := fnByMonomialUptoRow.holds Try.pinned (OpenSpec.upto fnByMonomialSpec)

/-- 'laws.FnScalePoly', WHERE WHAT IT READS IS OF BULK AT MOST 1048576: true; the input reads as it did. -/
def fnScalePolyUptoRow : OpenClaim := { program := "ytjgclomokekogaa", sum := "db1b34e619ce7fa5bf9d7314ffdb8ae069b77b312a3015170e09401270b20352", func := "zxreedsolomon/laws.FnScalePoly", spec := "fnScalePoly", unfollowed := true, recurses := true, apart := false, narrowed := true }
def FnScalePolyUptoSaid : Prop := fnScalePolyUptoRow.holds Try.pinned (OpenSpec.upto fnScalePolySpec)

/-- 'laws.FnCorrects', WHERE WHAT IT READS IS OF BULK AT MOST 1048576: true; the input reads as it did. -/
def fnCorrectsUptoRow : OpenClaim := { program := "ytjgclomokekogaa", sum := "db1b34e619ce7fa5bf9d7314ffdb8ae069b77b312a3015170e09401270b20352", func := "zxreedsolomon/laws.FnCorrects", spec := "fnCorrects", unfollowed := true, recurses := true, apart := false, narrowed := true }
def FnCorrectsUptoSaid : Prop := fnCorrectsUptoRow.holds Try.pinned (OpenSpec.upto fnCorrectsSpec)

/-- 'laws.FnFound', WHERE WHAT IT READS IS OF BULK AT MOST 1048576: true; the input reads as it did. -/
def fnFoundUptoRow : OpenClaim := { program := "ytjgclomokekogaa", sum := "db1b34e619ce7fa5bf9d7314ffdb8ae069b77b312a3015170e09401270b20352", func := "zxreedsolomon/laws.FnFound", spec := "fnFound", unfollowed := true, recurses := true, apart := false, narrowed := true }
def FnFoundUptoSaid : Prop := fnFoundUptoRow.holds Try.pinned (OpenSpec.upto fnFoundSpec)

/-- 'laws.FnRoad', WHERE WHAT IT READS IS OF BULK AT MOST 1048576: true; the input reads as it did. -/
def fnRoadUptoRow : OpenClaim := { program := "ytjgclomokekogaa", sum := "db1b34e619ce7fa5bf9d7314ffdb8ae069b77b312a3015170e09401270b20352", func := "zxreedsolomon/laws.FnRoad", spec := "fnRoad", unfollowed := true, recurses := true, apart := false, narrowed := true }
def FnRoadUptoSaid : Prop := fnRoadUptoRow.holds Try.pinned (OpenSpec.upto fnRoadSpec)

end Rows
end Go.Proofs.Ytjgclomokekogaa
