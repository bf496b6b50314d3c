/-
  NARROWER THAN 'FOR EVERY INPUT', by the rows' own cells (each row's printed sentence says how): FnReadMembersRoundTrip: laid · FnReadMembersPrefixes: laid.
  DERIVED. THE GIVEN ROWS OF THIS SEAT. 2 by the template 'for every input the law returns true; each argument reads behind the call as it read before'; 0 by the template 'total and deterministic' (their statements: Qxb6613060aDoorTotals.lean).
  GIVEN WITH THE SEED: the statements are not yours to turn. If you find one false, say at which input.
  Laid BY PROGRAM, IN A SANDBOX (cutbox-rows.mjs): the forced cells as the released guide's own fill.sh prints them over the translation 9cd4b3f58df94d3f… (all of the seat's roots in one cut). By AI agents, Wed Nov 11 2026. No macro, syntax, notation, axiom, sorry.
-/
import Derived.Test.Qxb6613060aDoorChecked
import GoSem.Claim
import GoSem.ClaimJoined
import GoSem.ClaimMapViews
import Derived.JoinedTies
import Derived.KernelRfl
namespace Go.Proofs.Qxb6613060aDoor
/- THE CELL 'sum', in the pinned program and in every row, IS THE sha256 OF THE DUMP (.gsa) THAT Qxb6613060aDoorProg.lean LOADS. Nothing in Lean hashes anything: it is a label: what it is worth is what the hold of that sum in a sandbox is worth. -/
noncomputable def Tryd.pinned : Pinned := { name := "qxb6613060adoor", sum := "9cd4b3f58df94d3fec500800b187bafe775e0744b59998c3783cfa9051261f57", checked := Tryd.checked }
namespace Rows
def none {H : Type} : Left H := { results := [], args := [] }

/- WHAT THE LISTED PACKAGE-LEVEL VARIABLES READ AS WHEN THE CALL BEGINS. Each datum BY PROGRAM (the guide's laid-datum.mjs) off the statement by which the dump's own 'gosem.cut.vars' lays the variable. In a bare row this is a premise. The card (Qxb6613060aDoorCards.lean) ties it to the program's text. -/
def laid_io_ErrUnexpectedEOF {H : Type} : DataW H := .iface "*errors.errorString" (.ptr (.agg [.lit (.string [117, 110, 101, 120, 112, 101, 99, 116, 101, 100, 32, 69, 79, 70])]))

/-- 'zzlaws_internal_raft_b1.FnReadMembersRoundTrip': WHATEVER THE INPUT: true; the input reads as it did. -/
def fnReadMembersRoundTripSpec : ChangeSpec := { name := "fnReadMembersRoundTrip", fn := fun _ => fun
  | [d] => { results := [.lit (.bool true)], args := [d] }
  | _ => none }
def fnReadMembersRoundTripRow : OpenClaim := { program := "qxb6613060adoor", sum := "9cd4b3f58df94d3fec500800b187bafe775e0744b59998c3783cfa9051261f57", func := "example.com/assent/assent/zzlaws_internal_raft_b1.FnReadMembersRoundTrip", spec := "fnReadMembersRoundTrip", inPlace := ["internal/bytealg.abigen_runtime_cmpstring"], unfollowed := true, recurses := true, named := ["io.ErrUnexpectedEOF"], apart := false, laid := [("io.ErrUnexpectedEOF", laid_io_ErrUnexpectedEOF)] }
def FnReadMembersRoundTripSaid : Prop := fnReadMembersRoundTripRow.holds Tryd.pinned (OpenSpec.ofChange fnReadMembersRoundTripSpec)

/-- ITS FALSE NEIGHBOUR: 'it returns false'. Refute it at one input. -/
def fnReadMembersRoundTripWrong : ChangeSpec := { name := "fnReadMembersRoundTrip", fn := fun _ => fun
  | [d] => { results := [.lit (.bool false)], args := [d] }
  | _ => none }
def FnReadMembersRoundTripWrongFalsely : Prop := fnReadMembersRoundTripRow.holds Tryd.pinned (OpenSpec.ofChange fnReadMembersRoundTripWrong)

/-- 'zzlaws_internal_raft_b1.FnReadMembersPrefixes': WHATEVER THE INPUT: true; the input reads as it did. -/
def fnReadMembersPrefixesSpec : ChangeSpec := { name := "fnReadMembersPrefixes", fn := fun _ => fun
  | [d1, d2] => { results := [.lit (.bool true)], args := [d1, d2] }
  | _ => none }
def fnReadMembersPrefixesRow : OpenClaim := { program := "qxb6613060adoor", sum := "9cd4b3f58df94d3fec500800b187bafe775e0744b59998c3783cfa9051261f57", func := "example.com/assent/assent/zzlaws_internal_raft_b1.FnReadMembersPrefixes", spec := "fnReadMembersPrefixes", inPlace := ["internal/bytealg.abigen_runtime_cmpstring"], unfollowed := true, recurses := true, named := ["io.ErrUnexpectedEOF"], apart := false, laid := [("io.ErrUnexpectedEOF", laid_io_ErrUnexpectedEOF)] }
def FnReadMembersPrefixesSaid : Prop := fnReadMembersPrefixesRow.holds Tryd.pinned (OpenSpec.ofChange fnReadMembersPrefixesSpec)

/-- ITS FALSE NEIGHBOUR: 'it returns false'. Refute it at one input. -/
def fnReadMembersPrefixesWrong : ChangeSpec := { name := "fnReadMembersPrefixes", fn := fun _ => fun
  | [d1, d2] => { results := [.lit (.bool false)], args := [d1, d2] }
  | _ => none }
def FnReadMembersPrefixesWrongFalsely : Prop := fnReadMembersPrefixesRow.holds Tryd.pinned (OpenSpec.ofChange fnReadMembersPrefixesWrong)

end Rows
end Go.Proofs.Qxb6613060aDoor
