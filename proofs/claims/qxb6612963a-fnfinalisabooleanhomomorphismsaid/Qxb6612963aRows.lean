/-
  No cell of these rows narrows 'for every input' (looked for: loops, veiled, ifaces, maps, wideKeys, modest, calm, conditions, laid).
  DERIVED. THE GIVEN ROWS OF THIS SEAT. 2 by the template 'for every input the law returns true; each argument reads behind the call as it read before'; 0 by the template 'total and deterministic' (their statements: Qxb6612963aTotals.lean).
  GIVEN WITH THE SEED: the statements are not yours to turn. If you find one false, say at which input.
  Laid BY PROGRAM, IN A SANDBOX (cutbox-rows.mjs): the forced cells as the released guide's own fill.sh prints them over the translation e45a83382ded99af… (all of the seat's roots in one cut). By AI agents, Wed Nov 11 2026. No macro, syntax, notation, axiom, sorry.
-/
import Derived.Test.Qxb6612963aChecked
import GoSem.Claim
import GoSem.ClaimJoined
import GoSem.ClaimMapViews
import Derived.JoinedTies
import Derived.KernelRfl
namespace Go.Proofs.Qxb6612963a
/- THE CELL 'sum', in the pinned program and in every row, IS THE sha256 OF THE DUMP (.gsa) THAT Qxb6612963aProg.lean LOADS. Nothing in Lean hashes anything: it is a label: what it is worth is what the hold of that sum in a sandbox is worth. -/
noncomputable def Try.pinned : Pinned := { name := "qxb6612963a", sum := "e45a83382ded99af28f6e39cc420c7736556143f06968675a3c54cbbd6620a1d", checked := Try.checked }
namespace Rows
def none {H : Type} : Left H := { results := [], args := [] }

/-- 'zzlaws_root_b1.FnFinalIsBit28Alone': WHATEVER THE INPUT: true; the input reads as it did. -/
def fnFinalIsBit28AloneSpec : ChangeSpec := { name := "fnFinalIsBit28Alone", fn := fun _ => fun
  | [d1, d2] => { results := [.lit (.bool true)], args := [d1, d2] }
  | _ => none }
def fnFinalIsBit28AloneRow : OpenClaim := { program := "qxb6612963a", sum := "e45a83382ded99af28f6e39cc420c7736556143f06968675a3c54cbbd6620a1d", func := "example.com/isimud/isimud/zzlaws_root_b1.FnFinalIsBit28Alone", spec := "fnFinalIsBit28Alone", apart := false }
def FnFinalIsBit28AloneSaid : Prop := fnFinalIsBit28AloneRow.holds Try.pinned (OpenSpec.ofChange fnFinalIsBit28AloneSpec)

/-- ITS FALSE NEIGHBOUR: 'it returns false'. Refute it at one input. -/
def fnFinalIsBit28AloneWrong : ChangeSpec := { name := "fnFinalIsBit28Alone", fn := fun _ => fun
  | [d1, d2] => { results := [.lit (.bool false)], args := [d1, d2] }
  | _ => none }
def FnFinalIsBit28AloneWrongFalsely : Prop := fnFinalIsBit28AloneRow.holds Try.pinned (OpenSpec.ofChange fnFinalIsBit28AloneWrong)

/-- 'zzlaws_root_b1.FnFinalIsABooleanHomomorphism': WHATEVER THE INPUT: true; the input reads as it did. -/
def fnFinalIsABooleanHomomorphismSpec : ChangeSpec := { name := "fnFinalIsABooleanHomomorphism", fn := fun _ => fun
  | [d1, d2] => { results := [.lit (.bool true)], args := [d1, d2] }
  | _ => none }
def fnFinalIsABooleanHomomorphismRow : OpenClaim := { program := "qxb6612963a", sum := "e45a83382ded99af28f6e39cc420c7736556143f06968675a3c54cbbd6620a1d", func := "example.com/isimud/isimud/zzlaws_root_b1.FnFinalIsABooleanHomomorphism", spec := "fnFinalIsABooleanHomomorphism", apart := false }
def FnFinalIsABooleanHomomorphismSaid : Prop := fnFinalIsABooleanHomomorphismRow.holds Try.pinned (OpenSpec.ofChange fnFinalIsABooleanHomomorphismSpec)

/-- ITS FALSE NEIGHBOUR: 'it returns false'. Refute it at one input. -/
def fnFinalIsABooleanHomomorphismWrong : ChangeSpec := { name := "fnFinalIsABooleanHomomorphism", fn := fun _ => fun
  | [d1, d2] => { results := [.lit (.bool false)], args := [d1, d2] }
  | _ => none }
def FnFinalIsABooleanHomomorphismWrongFalsely : Prop := fnFinalIsABooleanHomomorphismRow.holds Try.pinned (OpenSpec.ofChange fnFinalIsABooleanHomomorphismWrong)

end Rows
end Go.Proofs.Qxb6612963a
