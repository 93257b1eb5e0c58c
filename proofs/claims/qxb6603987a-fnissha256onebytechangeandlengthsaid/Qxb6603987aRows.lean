/-
  No cell of these rows narrows 'for every input' (looked for: loops, veiled, ifaces, maps, wideKeys, modest, calm, conditions, laid).
  DERIVED. THE GIVEN ROWS OF THIS SEAT. 3 by the template 'for every input the law returns true; each argument reads behind the call as it read before'; 0 by the template 'total and deterministic' (their statements: Qxb6603987aTotals.lean).
  GIVEN WITH THE SEED: the statements are not yours to turn. If you find one false, say at which input.
  Laid BY PROGRAM, IN A SANDBOX (cutbox-rows.mjs): the forced cells as the released guide's own fill.sh prints them over the translation 30758466dd8cb498… (all of the seat's roots in one cut). By AI agents, Wed Nov 11 2026. No macro, syntax, notation, axiom, sorry.
-/
import Derived.Test.Qxb6603987aChecked
import GoSem.Claim
import GoSem.ClaimJoined
import GoSem.ClaimMapViews
import Derived.JoinedTies
import Derived.KernelRfl
namespace Go.Proofs.Qxb6603987a
/- THE CELL 'sum', in the pinned program and in every row, IS THE sha256 OF THE DUMP (.gsa) THAT Qxb6603987aProg.lean LOADS. Nothing in Lean hashes anything: it is a label: what it is worth is what the hold of that sum in a sandbox is worth. -/
noncomputable def Try.pinned : Pinned := { name := "qxb6603987a", sum := "30758466dd8cb4987d1f1bbe8cbdf9dbb322e7259efdfa740d6b0973fcc09e02", checked := Try.checked }
namespace Rows
def none {H : Type} : Left H := { results := [], args := [] }

/-- 'zzlaws_pkg_config_b1.FnIsSHA256MatchesByteModel': WHATEVER THE INPUT: true; the input reads as it did. -/
def fnIsSHA256MatchesByteModelSpec : ChangeSpec := { name := "fnIsSHA256MatchesByteModel", fn := fun _ => fun
  | [d] => { results := [.lit (.bool true)], args := [d] }
  | _ => none }
def fnIsSHA256MatchesByteModelRow : OpenClaim := { program := "qxb6603987a", sum := "30758466dd8cb4987d1f1bbe8cbdf9dbb322e7259efdfa740d6b0973fcc09e02", func := "example.com/concordat/concordat/zzlaws_pkg_config_b1.FnIsSHA256MatchesByteModel", spec := "fnIsSHA256MatchesByteModel", apart := false }
def FnIsSHA256MatchesByteModelSaid : Prop := fnIsSHA256MatchesByteModelRow.holds Try.pinned (OpenSpec.ofChange fnIsSHA256MatchesByteModelSpec)

/-- ITS FALSE NEIGHBOUR: 'it returns false'. Refute it at one input. -/
def fnIsSHA256MatchesByteModelWrong : ChangeSpec := { name := "fnIsSHA256MatchesByteModel", fn := fun _ => fun
  | [d] => { results := [.lit (.bool false)], args := [d] }
  | _ => none }
def FnIsSHA256MatchesByteModelWrongFalsely : Prop := fnIsSHA256MatchesByteModelRow.holds Try.pinned (OpenSpec.ofChange fnIsSHA256MatchesByteModelWrong)

/-- 'zzlaws_pkg_config_b1.FnIsSHA256AcceptsLowerHexOfEveryDigest': WHATEVER THE INPUT: true; the input reads as it did. -/
def fnIsSHA256AcceptsLowerHexOfEveryDigestSpec : ChangeSpec := { name := "fnIsSHA256AcceptsLowerHexOfEveryDigest", fn := fun _ => fun
  | [d] => { results := [.lit (.bool true)], args := [d] }
  | _ => none }
def fnIsSHA256AcceptsLowerHexOfEveryDigestRow : OpenClaim := { program := "qxb6603987a", sum := "30758466dd8cb4987d1f1bbe8cbdf9dbb322e7259efdfa740d6b0973fcc09e02", func := "example.com/concordat/concordat/zzlaws_pkg_config_b1.FnIsSHA256AcceptsLowerHexOfEveryDigest", spec := "fnIsSHA256AcceptsLowerHexOfEveryDigest", apart := false }
def FnIsSHA256AcceptsLowerHexOfEveryDigestSaid : Prop := fnIsSHA256AcceptsLowerHexOfEveryDigestRow.holds Try.pinned (OpenSpec.ofChange fnIsSHA256AcceptsLowerHexOfEveryDigestSpec)

/-- ITS FALSE NEIGHBOUR: 'it returns false'. Refute it at one input. -/
def fnIsSHA256AcceptsLowerHexOfEveryDigestWrong : ChangeSpec := { name := "fnIsSHA256AcceptsLowerHexOfEveryDigest", fn := fun _ => fun
  | [d] => { results := [.lit (.bool false)], args := [d] }
  | _ => none }
def FnIsSHA256AcceptsLowerHexOfEveryDigestWrongFalsely : Prop := fnIsSHA256AcceptsLowerHexOfEveryDigestRow.holds Try.pinned (OpenSpec.ofChange fnIsSHA256AcceptsLowerHexOfEveryDigestWrong)

/-- 'zzlaws_pkg_config_b1.FnIsSHA256OneByteChangeAndLength': WHATEVER THE INPUT: true; the input reads as it did. -/
def fnIsSHA256OneByteChangeAndLengthSpec : ChangeSpec := { name := "fnIsSHA256OneByteChangeAndLength", fn := fun _ => fun
  | [d1, d2, d3, d4, d5] => { results := [.lit (.bool true)], args := [d1, d2, d3, d4, d5] }
  | _ => none }
def fnIsSHA256OneByteChangeAndLengthRow : OpenClaim := { program := "qxb6603987a", sum := "30758466dd8cb4987d1f1bbe8cbdf9dbb322e7259efdfa740d6b0973fcc09e02", func := "example.com/concordat/concordat/zzlaws_pkg_config_b1.FnIsSHA256OneByteChangeAndLength", spec := "fnIsSHA256OneByteChangeAndLength", apart := false }
def FnIsSHA256OneByteChangeAndLengthSaid : Prop := fnIsSHA256OneByteChangeAndLengthRow.holds Try.pinned (OpenSpec.ofChange fnIsSHA256OneByteChangeAndLengthSpec)

/-- ITS FALSE NEIGHBOUR: 'it returns false'. Refute it at one input. -/
def fnIsSHA256OneByteChangeAndLengthWrong : ChangeSpec := { name := "fnIsSHA256OneByteChangeAndLength", fn := fun _ => fun
  | [d1, d2, d3, d4, d5] => { results := [.lit (.bool false)], args := [d1, d2, d3, d4, d5] }
  | _ => none }
def FnIsSHA256OneByteChangeAndLengthWrongFalsely : Prop := fnIsSHA256OneByteChangeAndLengthRow.holds Try.pinned (OpenSpec.ofChange fnIsSHA256OneByteChangeAndLengthWrong)

end Rows
end Go.Proofs.Qxb6603987a
