/-
  No cell of these rows narrows 'for every input' (looked for: loops, veiled, ifaces, maps, wideKeys, modest, calm, conditions, laid).
  DERIVED. THE GIVEN ROWS OF THIS SEAT. 4 by the template 'for every input the law returns true; each argument reads behind the call as it read before'; 0 by the template 'total and deterministic' (their statements: Qxb6612901aTotals.lean).
  GIVEN WITH THE SEED: the statements are not yours to turn. If you find one false, say at which input.
  Laid BY PROGRAM, IN A SANDBOX (cutbox-rows.mjs): the forced cells as the released guide's own fill.sh prints them over the translation 2deace1e2a39020f… (all of the seat's roots in one cut). By AI agents, Wed Nov 11 2026. No macro, syntax, notation, axiom, sorry.
-/
import Derived.Test.Qxb6612901aChecked
import GoSem.Claim
import GoSem.ClaimJoined
import GoSem.ClaimMapViews
import Derived.JoinedTies
import Derived.KernelRfl
namespace Go.Proofs.Qxb6612901a
/- THE CELL 'sum', in the pinned program and in every row, IS THE sha256 OF THE DUMP (.gsa) THAT Qxb6612901aProg.lean LOADS. Nothing in Lean hashes anything: it is a label: what it is worth is what the hold of that sum in a sandbox is worth. -/
noncomputable def Try.pinned : Pinned := { name := "qxb6612901a", sum := "2deace1e2a39020f7f9146eb16ced2a28657fcf5eeceed8a12e8b369b35ffef7", checked := Try.checked }
namespace Rows
def none {H : Type} : Left H := { results := [], args := [] }

/-- 'zzlaws_internal_access_b1.FnIsAdminInsertAnywhere': WHATEVER THE INPUT: true; the input reads as it did. -/
def fnIsAdminInsertAnywhereSpec : ChangeSpec := { name := "fnIsAdminInsertAnywhere", fn := fun _ => fun
  | [d1, d2, d3, d4] => { results := [.lit (.bool true)], args := [d1, d2, d3, d4] }
  | _ => none }
def fnIsAdminInsertAnywhereRow : OpenClaim := { program := "qxb6612901a", sum := "2deace1e2a39020f7f9146eb16ced2a28657fcf5eeceed8a12e8b369b35ffef7", func := "example.com/endow/endow/zzlaws_internal_access_b1.FnIsAdminInsertAnywhere", spec := "fnIsAdminInsertAnywhere", apart := false }
def FnIsAdminInsertAnywhereSaid : Prop := fnIsAdminInsertAnywhereRow.holds Try.pinned (OpenSpec.ofChange fnIsAdminInsertAnywhereSpec)

/-- ITS FALSE NEIGHBOUR: 'it returns false'. Refute it at one input. -/
def fnIsAdminInsertAnywhereWrong : ChangeSpec := { name := "fnIsAdminInsertAnywhere", fn := fun _ => fun
  | [d1, d2, d3, d4] => { results := [.lit (.bool false)], args := [d1, d2, d3, d4] }
  | _ => none }
def FnIsAdminInsertAnywhereWrongFalsely : Prop := fnIsAdminInsertAnywhereRow.holds Try.pinned (OpenSpec.ofChange fnIsAdminInsertAnywhereWrong)

/-- 'zzlaws_internal_access_b1.FnIsAdminGlobalAdminDecides': WHATEVER THE INPUT: true; the input reads as it did. -/
def fnIsAdminGlobalAdminDecidesSpec : ChangeSpec := { name := "fnIsAdminGlobalAdminDecides", fn := fun _ => fun
  | [d1, d2, d3] => { results := [.lit (.bool true)], args := [d1, d2, d3] }
  | _ => none }
def fnIsAdminGlobalAdminDecidesRow : OpenClaim := { program := "qxb6612901a", sum := "2deace1e2a39020f7f9146eb16ced2a28657fcf5eeceed8a12e8b369b35ffef7", func := "example.com/endow/endow/zzlaws_internal_access_b1.FnIsAdminGlobalAdminDecides", spec := "fnIsAdminGlobalAdminDecides", apart := false }
def FnIsAdminGlobalAdminDecidesSaid : Prop := fnIsAdminGlobalAdminDecidesRow.holds Try.pinned (OpenSpec.ofChange fnIsAdminGlobalAdminDecidesSpec)

/-- ITS FALSE NEIGHBOUR: 'it returns false'. Refute it at one input. -/
def fnIsAdminGlobalAdminDecidesWrong : ChangeSpec := { name := "fnIsAdminGlobalAdminDecides", fn := fun _ => fun
  | [d1, d2, d3] => { results := [.lit (.bool false)], args := [d1, d2, d3] }
  | _ => none }
def FnIsAdminGlobalAdminDecidesWrongFalsely : Prop := fnIsAdminGlobalAdminDecidesRow.holds Try.pinned (OpenSpec.ofChange fnIsAdminGlobalAdminDecidesWrong)

/-- 'zzlaws_internal_access_b1.FnCountsInAcrossProjects': WHATEVER THE INPUT: true; the input reads as it did. -/
def fnCountsInAcrossProjectsSpec : ChangeSpec := { name := "fnCountsInAcrossProjects", fn := fun _ => fun
  | [d1, d2, d3, d4] => { results := [.lit (.bool true)], args := [d1, d2, d3, d4] }
  | _ => none }
def fnCountsInAcrossProjectsRow : OpenClaim := { program := "qxb6612901a", sum := "2deace1e2a39020f7f9146eb16ced2a28657fcf5eeceed8a12e8b369b35ffef7", func := "example.com/endow/endow/zzlaws_internal_access_b1.FnCountsInAcrossProjects", spec := "fnCountsInAcrossProjects", apart := false }
def FnCountsInAcrossProjectsSaid : Prop := fnCountsInAcrossProjectsRow.holds Try.pinned (OpenSpec.ofChange fnCountsInAcrossProjectsSpec)

/-- ITS FALSE NEIGHBOUR: 'it returns false'. Refute it at one input. -/
def fnCountsInAcrossProjectsWrong : ChangeSpec := { name := "fnCountsInAcrossProjects", fn := fun _ => fun
  | [d1, d2, d3, d4] => { results := [.lit (.bool false)], args := [d1, d2, d3, d4] }
  | _ => none }
def FnCountsInAcrossProjectsWrongFalsely : Prop := fnCountsInAcrossProjectsRow.holds Try.pinned (OpenSpec.ofChange fnCountsInAcrossProjectsWrong)

/-- 'zzlaws_internal_access_b1.FnCountsInAgreesWithIsAdmin': WHATEVER THE INPUT: true; the input reads as it did. -/
def fnCountsInAgreesWithIsAdminSpec : ChangeSpec := { name := "fnCountsInAgreesWithIsAdmin", fn := fun _ => fun
  | [d1, d2, d3, d4] => { results := [.lit (.bool true)], args := [d1, d2, d3, d4] }
  | _ => none }
def fnCountsInAgreesWithIsAdminRow : OpenClaim := { program := "qxb6612901a", sum := "2deace1e2a39020f7f9146eb16ced2a28657fcf5eeceed8a12e8b369b35ffef7", func := "example.com/endow/endow/zzlaws_internal_access_b1.FnCountsInAgreesWithIsAdmin", spec := "fnCountsInAgreesWithIsAdmin", apart := false }
def FnCountsInAgreesWithIsAdminSaid : Prop := fnCountsInAgreesWithIsAdminRow.holds Try.pinned (OpenSpec.ofChange fnCountsInAgreesWithIsAdminSpec)

/-- ITS FALSE NEIGHBOUR: 'it returns false'. Refute it at one input. -/
def fnCountsInAgreesWithIsAdminWrong : ChangeSpec := { name := "fnCountsInAgreesWithIsAdmin", fn := fun _ => fun
  | [d1, d2, d3, d4] => { results := [.lit (.bool false)], args := [d1, d2, d3, d4] }
  | _ => none }
def FnCountsInAgreesWithIsAdminWrongFalsely : Prop := fnCountsInAgreesWithIsAdminRow.holds Try.pinned (OpenSpec.ofChange fnCountsInAgreesWithIsAdminWrong)

end Rows
end Go.Proofs.Qxb6612901a
