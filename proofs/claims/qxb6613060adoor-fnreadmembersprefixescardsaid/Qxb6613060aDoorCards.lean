/-
  DERIVED. GIVEN WITH THE SEED: THE CARDS: each row of Qxb6613060aDoorRows.lean that lists a variable, with what it lists TIED to the program's text (the seventh form; the later family's looks); each row that meets fmt, with fmt's text TOLD by the authors' own Lean function (tested against real Go, not proved from fmt's source: count such statements apart). THE CARD IS WHAT COUNTS. Prove the row's statement (the work); the ties are given (Qxb6613060aDoorTie.lean); close each card by the builder's one call (the guide's Derived/Test/ToyasCard.lean, 'card_holds'). Laid BY PROGRAM, IN A SANDBOX (cutbox-door.mjs). By AI agents, Wed Nov 11 2026. No macro, syntax, notation, axiom, sorry.
-/
import Derived.Test.Qxb6613060aDoorRows
import GoSem.ClaimSeven
namespace Go.Proofs.Qxb6613060aDoor
namespace Rows

/-- THE TIED CARD OF 'zzlaws_internal_raft_b1.FnReadMembersRoundTrip'. -/
def fnReadMembersRoundTripCard : Claim7 := { stood := { row := fnReadMembersRoundTripRow, standIns := [], harness := (true, "d15dbe52f2b4dfa6d040cf9bb540f3365306dde94308dd327c76772a6fbc38dc"), looks := false }, kinds := [], alts := [], laidByText := true, laidKinds := [.sentinel], laidTests := true, laidLooks := .later }
def FnReadMembersRoundTripCardSaid : Prop := Claim7.holds Tryd.pinned (.plain (OpenSpec.ofChange fnReadMembersRoundTripSpec)) fnReadMembersRoundTripCard

/-- THE TIED CARD OF 'zzlaws_internal_raft_b1.FnReadMembersPrefixes'. -/
def fnReadMembersPrefixesCard : Claim7 := { stood := { row := fnReadMembersPrefixesRow, standIns := [], harness := (true, "d15dbe52f2b4dfa6d040cf9bb540f3365306dde94308dd327c76772a6fbc38dc"), looks := false }, kinds := [], alts := [], laidByText := true, laidKinds := [.sentinel], laidTests := true, laidLooks := .later }
def FnReadMembersPrefixesCardSaid : Prop := Claim7.holds Tryd.pinned (.plain (OpenSpec.ofChange fnReadMembersPrefixesSpec)) fnReadMembersPrefixesCard
end Rows
end Go.Proofs.Qxb6613060aDoor
