/-
  No cell of these rows narrows 'for every input' (looked for: loops, veiled, ifaces, maps, wideKeys, modest, calm, conditions, laid).
  DERIVED. THE GIVEN ROWS OF THIS SEAT. 3 by the template 'for every input the law returns true; each argument reads behind the call as it read before'; 0 by the template 'total and deterministic' (their statements: Qxb6603879aTotals.lean).
  GIVEN WITH THE SEED: the statements are not yours to turn. If you find one false, say at which input.
  Laid BY PROGRAM, IN A SANDBOX (cutbox-rows.mjs): the forced cells as the released guide's own fill.sh prints them over the translation 48a82bc993cde19f… (all of the seat's roots in one cut). By AI agents, Wed Nov 11 2026. No macro, syntax, notation, axiom, sorry.
-/
import Derived.Test.Qxb6603879aChecked
import GoSem.Claim
import GoSem.ClaimJoined
import GoSem.ClaimMapViews
import Derived.JoinedTies
import Derived.KernelRfl
namespace Go.Proofs.Qxb6603879a
/- THE CELL 'sum', in the pinned program and in every row, IS THE sha256 OF THE DUMP (.gsa) THAT Qxb6603879aProg.lean LOADS. Nothing in Lean hashes anything: it is a label: what it is worth is what the hold of that sum in a sandbox is worth. -/
noncomputable def Try.pinned : Pinned := { name := "qxb6603879a", sum := "48a82bc993cde19f929b6d7df806b5dbe35f9e0975605c3465638261f68cb882", checked := Try.checked }
namespace Rows
def none {H : Type} : Left H := { results := [], args := [] }

/-- 'zzlaws_internal_wsconn_b1.FnHeadSizeCaseTable': WHATEVER THE INPUT: true; the input reads as it did. -/
def fnHeadSizeCaseTableSpec : ChangeSpec := { name := "fnHeadSizeCaseTable", fn := fun _ => fun
  | [d] => { results := [.lit (.bool true)], args := [d] }
  | _ => none }
def fnHeadSizeCaseTableRow : OpenClaim := { program := "qxb6603879a", sum := "48a82bc993cde19f929b6d7df806b5dbe35f9e0975605c3465638261f68cb882", func := "example.com/nimble-relay/nimble-relay/zzlaws_internal_wsconn_b1.FnHeadSizeCaseTable", spec := "fnHeadSizeCaseTable", apart := false }
def FnHeadSizeCaseTableSaid : Prop := fnHeadSizeCaseTableRow.holds Try.pinned (OpenSpec.ofChange fnHeadSizeCaseTableSpec)

/-- ITS FALSE NEIGHBOUR: 'it returns false'. Refute it at one input. -/
def fnHeadSizeCaseTableWrong : ChangeSpec := { name := "fnHeadSizeCaseTable", fn := fun _ => fun
  | [d] => { results := [.lit (.bool false)], args := [d] }
  | _ => none }
def FnHeadSizeCaseTableWrongFalsely : Prop := fnHeadSizeCaseTableRow.holds Try.pinned (OpenSpec.ofChange fnHeadSizeCaseTableWrong)

/-- 'zzlaws_internal_wsconn_b1.FnHeadSizeMaskAddsFour': WHATEVER THE INPUT: true; the input reads as it did. -/
def fnHeadSizeMaskAddsFourSpec : ChangeSpec := { name := "fnHeadSizeMaskAddsFour", fn := fun _ => fun
  | [d] => { results := [.lit (.bool true)], args := [d] }
  | _ => none }
def fnHeadSizeMaskAddsFourRow : OpenClaim := { program := "qxb6603879a", sum := "48a82bc993cde19f929b6d7df806b5dbe35f9e0975605c3465638261f68cb882", func := "example.com/nimble-relay/nimble-relay/zzlaws_internal_wsconn_b1.FnHeadSizeMaskAddsFour", spec := "fnHeadSizeMaskAddsFour", apart := false }
def FnHeadSizeMaskAddsFourSaid : Prop := fnHeadSizeMaskAddsFourRow.holds Try.pinned (OpenSpec.ofChange fnHeadSizeMaskAddsFourSpec)

/-- ITS FALSE NEIGHBOUR: 'it returns false'. Refute it at one input. -/
def fnHeadSizeMaskAddsFourWrong : ChangeSpec := { name := "fnHeadSizeMaskAddsFour", fn := fun _ => fun
  | [d] => { results := [.lit (.bool false)], args := [d] }
  | _ => none }
def FnHeadSizeMaskAddsFourWrongFalsely : Prop := fnHeadSizeMaskAddsFourRow.holds Try.pinned (OpenSpec.ofChange fnHeadSizeMaskAddsFourWrong)

/-- 'zzlaws_internal_wsconn_b1.FnHeadSizeOfEncodedHeader': WHATEVER THE INPUT: true; the input reads as it did. -/
def fnHeadSizeOfEncodedHeaderSpec : ChangeSpec := { name := "fnHeadSizeOfEncodedHeader", fn := fun _ => fun
  | [d1, d2, d3, d4, d5] => { results := [.lit (.bool true)], args := [d1, d2, d3, d4, d5] }
  | _ => none }
def fnHeadSizeOfEncodedHeaderRow : OpenClaim := { program := "qxb6603879a", sum := "48a82bc993cde19f929b6d7df806b5dbe35f9e0975605c3465638261f68cb882", func := "example.com/nimble-relay/nimble-relay/zzlaws_internal_wsconn_b1.FnHeadSizeOfEncodedHeader", spec := "fnHeadSizeOfEncodedHeader", apart := false }
def FnHeadSizeOfEncodedHeaderSaid : Prop := fnHeadSizeOfEncodedHeaderRow.holds Try.pinned (OpenSpec.ofChange fnHeadSizeOfEncodedHeaderSpec)

/-- ITS FALSE NEIGHBOUR: 'it returns false'. Refute it at one input. -/
def fnHeadSizeOfEncodedHeaderWrong : ChangeSpec := { name := "fnHeadSizeOfEncodedHeader", fn := fun _ => fun
  | [d1, d2, d3, d4, d5] => { results := [.lit (.bool false)], args := [d1, d2, d3, d4, d5] }
  | _ => none }
def FnHeadSizeOfEncodedHeaderWrongFalsely : Prop := fnHeadSizeOfEncodedHeaderRow.holds Try.pinned (OpenSpec.ofChange fnHeadSizeOfEncodedHeaderWrong)

end Rows
end Go.Proofs.Qxb6603879a
