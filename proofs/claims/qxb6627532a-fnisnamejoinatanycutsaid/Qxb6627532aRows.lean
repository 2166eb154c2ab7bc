/-
  No cell of these rows narrows 'for every input' (looked for: loops, veiled, ifaces, maps, wideKeys, modest, calm, conditions, laid).
  DERIVED. THE GIVEN ROWS OF THIS SEAT. 2 by the template 'for every input the law returns true; each argument reads behind the call as it read before'; 0 by the template 'total and deterministic' (their statements: Qxb6627532aTotals.lean).
  GIVEN WITH THE SEED: the statements are not yours to turn. If you find one false, say at which input.
  Laid BY PROGRAM, IN A SANDBOX (cutbox-rows.mjs): the forced cells as the released guide's own fill.sh prints them over the translation ad28f449441abd5e… (all of the seat's roots in one cut). By AI agents, Wed Nov 11 2026. No macro, syntax, notation, axiom, sorry.
-/
import Derived.Test.Qxb6627532aChecked
import GoSem.Claim
import GoSem.ClaimJoined
import GoSem.ClaimMapViews
import Derived.JoinedTies
import Derived.KernelRfl
namespace Go.Proofs.Qxb6627532a
/- THE CELL 'sum', in the pinned program and in every row, IS THE sha256 OF THE DUMP (.gsa) THAT Qxb6627532aProg.lean LOADS. Nothing in Lean hashes anything: it is a label: what it is worth is what the hold of that sum in a sandbox is worth. -/
noncomputable def Try.pinned : Pinned := { name := "qxb6627532a", sum := "ad28f449441abd5ecb7419c95e1ffbefb509ffcc0dd4f600cf172392069fb4fb", checked := Try.checked }
namespace Rows
def none {H : Type} : Left H := { results := [], args := [] }

/-- 'zzlaws_pkg_tuple_b1.FnIsNameIsAsciiIdentifier': WHATEVER THE INPUT: true; the input reads as it did. -/
def fnIsNameIsAsciiIdentifierSpec : ChangeSpec := { name := "fnIsNameIsAsciiIdentifier", fn := fun _ => fun
  | [d] => { results := [.lit (.bool true)], args := [d] }
  | _ => none }
def fnIsNameIsAsciiIdentifierRow : OpenClaim := { program := "qxb6627532a", sum := "ad28f449441abd5ecb7419c95e1ffbefb509ffcc0dd4f600cf172392069fb4fb", func := "example.com/tuple/tuple/zzlaws_pkg_tuple_b1.FnIsNameIsAsciiIdentifier", spec := "fnIsNameIsAsciiIdentifier", apart := false }
def FnIsNameIsAsciiIdentifierSaid : Prop := fnIsNameIsAsciiIdentifierRow.holds Try.pinned (OpenSpec.ofChange fnIsNameIsAsciiIdentifierSpec)

/-- ITS FALSE NEIGHBOUR: 'it returns false'. Refute it at one input. -/
def fnIsNameIsAsciiIdentifierWrong : ChangeSpec := { name := "fnIsNameIsAsciiIdentifier", fn := fun _ => fun
  | [d] => { results := [.lit (.bool false)], args := [d] }
  | _ => none }
def FnIsNameIsAsciiIdentifierWrongFalsely : Prop := fnIsNameIsAsciiIdentifierRow.holds Try.pinned (OpenSpec.ofChange fnIsNameIsAsciiIdentifierWrong)

/-- 'zzlaws_pkg_tuple_b1.FnIsNameJoinAtAnyCut': WHATEVER THE INPUT: true; the input reads as it did. -/
def fnIsNameJoinAtAnyCutSpec : ChangeSpec := { name := "fnIsNameJoinAtAnyCut", fn := fun _ => fun
  | [d1, d2] => { results := [.lit (.bool true)], args := [d1, d2] }
  | _ => none }
def fnIsNameJoinAtAnyCutRow : OpenClaim := { program := "qxb6627532a", sum := "ad28f449441abd5ecb7419c95e1ffbefb509ffcc0dd4f600cf172392069fb4fb", func := "example.com/tuple/tuple/zzlaws_pkg_tuple_b1.FnIsNameJoinAtAnyCut", spec := "fnIsNameJoinAtAnyCut", apart := false }
def FnIsNameJoinAtAnyCutSaid : Prop := fnIsNameJoinAtAnyCutRow.holds Try.pinned (OpenSpec.ofChange fnIsNameJoinAtAnyCutSpec)

/-- ITS FALSE NEIGHBOUR: 'it returns false'. Refute it at one input. -/
def fnIsNameJoinAtAnyCutWrong : ChangeSpec := { name := "fnIsNameJoinAtAnyCut", fn := fun _ => fun
  | [d1, d2] => { results := [.lit (.bool false)], args := [d1, d2] }
  | _ => none }
def FnIsNameJoinAtAnyCutWrongFalsely : Prop := fnIsNameJoinAtAnyCutRow.holds Try.pinned (OpenSpec.ofChange fnIsNameJoinAtAnyCutWrong)

end Rows
end Go.Proofs.Qxb6627532a
