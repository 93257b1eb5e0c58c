/-
  No cell of these rows narrows 'for every input' (looked for: loops, veiled, ifaces, maps, wideKeys, modest, calm, conditions, laid).
  DERIVED. THE GIVEN ROWS OF THIS SEAT. 2 by the template 'for every input the law returns true; each argument reads behind the call as it read before'; 0 by the template 'total and deterministic' (their statements: Qxb6604023aTotals.lean).
  GIVEN WITH THE SEED: the statements are not yours to turn. If you find one false, say at which input.
  Laid BY PROGRAM, IN A SANDBOX (cutbox-rows.mjs): the forced cells as the released guide's own fill.sh prints them over the translation ae760841fa5ebe00… (all of the seat's roots in one cut). By AI agents, Wed Nov 11 2026. No macro, syntax, notation, axiom, sorry.
-/
import Derived.Test.Qxb6604023aChecked
import GoSem.Claim
import GoSem.ClaimJoined
import GoSem.ClaimMapViews
import Derived.JoinedTies
import Derived.KernelRfl
namespace Go.Proofs.Qxb6604023a
/- THE CELL 'sum', in the pinned program and in every row, IS THE sha256 OF THE DUMP (.gsa) THAT Qxb6604023aProg.lean LOADS. Nothing in Lean hashes anything: it is a label: what it is worth is what the hold of that sum in a sandbox is worth. -/
noncomputable def Try.pinned : Pinned := { name := "qxb6604023a", sum := "ae760841fa5ebe00bde25cb55e06386fc08027aba64cbbd983170b4b5d159ffb", checked := Try.checked }
namespace Rows
def none {H : Type} : Left H := { results := [], args := [] }

/-- 'zzlaws_internal_row_b1.FnIntegerExact': WHATEVER THE INPUT: true; the input reads as it did. -/
def fnIntegerExactSpec : ChangeSpec := { name := "fnIntegerExact", fn := fun _ => fun
  | [d1, d2, d3] => { results := [.lit (.bool true)], args := [d1, d2, d3] }
  | _ => none }
def fnIntegerExactRow : OpenClaim := { program := "qxb6604023a", sum := "ae760841fa5ebe00bde25cb55e06386fc08027aba64cbbd983170b4b5d159ffb", func := "example.com/wellmetered/wellmetered/zzlaws_internal_row_b1.FnIntegerExact", spec := "fnIntegerExact", apart := false }
def FnIntegerExactSaid : Prop := fnIntegerExactRow.holds Try.pinned (OpenSpec.ofChange fnIntegerExactSpec)

/-- ITS FALSE NEIGHBOUR: 'it returns false'. Refute it at one input. -/
def fnIntegerExactWrong : ChangeSpec := { name := "fnIntegerExact", fn := fun _ => fun
  | [d1, d2, d3] => { results := [.lit (.bool false)], args := [d1, d2, d3] }
  | _ => none }
def FnIntegerExactWrongFalsely : Prop := fnIntegerExactRow.holds Try.pinned (OpenSpec.ofChange fnIntegerExactWrong)

/-- 'zzlaws_internal_row_b1.FnIntegerLocal': WHATEVER THE INPUT: true; the input reads as it did. -/
def fnIntegerLocalSpec : ChangeSpec := { name := "fnIntegerLocal", fn := fun _ => fun
  | [d1, d2, d3] => { results := [.lit (.bool true)], args := [d1, d2, d3] }
  | _ => none }
def fnIntegerLocalRow : OpenClaim := { program := "qxb6604023a", sum := "ae760841fa5ebe00bde25cb55e06386fc08027aba64cbbd983170b4b5d159ffb", func := "example.com/wellmetered/wellmetered/zzlaws_internal_row_b1.FnIntegerLocal", spec := "fnIntegerLocal", apart := false }
def FnIntegerLocalSaid : Prop := fnIntegerLocalRow.holds Try.pinned (OpenSpec.ofChange fnIntegerLocalSpec)

/-- ITS FALSE NEIGHBOUR: 'it returns false'. Refute it at one input. -/
def fnIntegerLocalWrong : ChangeSpec := { name := "fnIntegerLocal", fn := fun _ => fun
  | [d1, d2, d3] => { results := [.lit (.bool false)], args := [d1, d2, d3] }
  | _ => none }
def FnIntegerLocalWrongFalsely : Prop := fnIntegerLocalRow.holds Try.pinned (OpenSpec.ofChange fnIntegerLocalWrong)

end Rows
end Go.Proofs.Qxb6604023a
