/-
  No cell of these rows narrows 'for every input' (looked for: loops, veiled, ifaces, maps, wideKeys, modest, calm, conditions, laid).
  DERIVED. THE GIVEN ROWS OF THIS SEAT. 4 by the template 'for every input the law returns true; each argument reads behind the call as it read before'; 0 by the template 'total and deterministic' (their statements: Qxb6616331aTotals.lean).
  GIVEN WITH THE SEED: the statements are not yours to turn. If you find one false, say at which input.
  Laid BY PROGRAM, IN A SANDBOX (cutbox-rows.mjs): the forced cells as the released guide's own fill.sh prints them over the translation 5db8f428efd8a44e… (all of the seat's roots in one cut). By AI agents, Wed Nov 11 2026. No macro, syntax, notation, axiom, sorry.
-/
import Derived.Test.Qxb6616331aChecked
import GoSem.Claim
import GoSem.ClaimJoined
import GoSem.ClaimMapViews
import Derived.JoinedTies
import Derived.KernelRfl
namespace Go.Proofs.Qxb6616331a
/- THE CELL 'sum', in the pinned program and in every row, IS THE sha256 OF THE DUMP (.gsa) THAT Qxb6616331aProg.lean LOADS. Nothing in Lean hashes anything: it is a label: what it is worth is what the hold of that sum in a sandbox is worth. -/
noncomputable def Try.pinned : Pinned := { name := "qxb6616331a", sum := "5db8f428efd8a44e3e9b0e1d78211c3976499c9a09c79949ee0d1a7f739f87d5", checked := Try.checked }
namespace Rows
def none {H : Type} : Left H := { results := [], args := [] }

/-- 'zzlaws_internal_server_b1.FnMajorityOfJoinedMembers': WHATEVER THE INPUT: true; the input reads as it did. -/
def fnMajorityOfJoinedMembersSpec : ChangeSpec := { name := "fnMajorityOfJoinedMembers", fn := fun _ => fun
  | [d1, d2] => { results := [.lit (.bool true)], args := [d1, d2] }
  | _ => none }
def fnMajorityOfJoinedMembersRow : OpenClaim := { program := "qxb6616331a", sum := "5db8f428efd8a44e3e9b0e1d78211c3976499c9a09c79949ee0d1a7f739f87d5", func := "example.com/acordo/acordo/zzlaws_internal_server_b1.FnMajorityOfJoinedMembers", spec := "fnMajorityOfJoinedMembers", apart := false }
def FnMajorityOfJoinedMembersSaid : Prop := fnMajorityOfJoinedMembersRow.holds Try.pinned (OpenSpec.ofChange fnMajorityOfJoinedMembersSpec)

/-- ITS FALSE NEIGHBOUR: 'it returns false'. Refute it at one input. -/
def fnMajorityOfJoinedMembersWrong : ChangeSpec := { name := "fnMajorityOfJoinedMembers", fn := fun _ => fun
  | [d1, d2] => { results := [.lit (.bool false)], args := [d1, d2] }
  | _ => none }
def FnMajorityOfJoinedMembersWrongFalsely : Prop := fnMajorityOfJoinedMembersRow.holds Try.pinned (OpenSpec.ofChange fnMajorityOfJoinedMembersWrong)

/-- 'zzlaws_internal_server_b1.FnMajorityOfASetCountsEachAddressOnce': WHATEVER THE INPUT: true; the input reads as it did. -/
def fnMajorityOfASetCountsEachAddressOnceSpec : ChangeSpec := { name := "fnMajorityOfASetCountsEachAddressOnce", fn := fun _ => fun
  | [d] => { results := [.lit (.bool true)], args := [d] }
  | _ => none }
def fnMajorityOfASetCountsEachAddressOnceRow : OpenClaim := { program := "qxb6616331a", sum := "5db8f428efd8a44e3e9b0e1d78211c3976499c9a09c79949ee0d1a7f739f87d5", func := "example.com/acordo/acordo/zzlaws_internal_server_b1.FnMajorityOfASetCountsEachAddressOnce", spec := "fnMajorityOfASetCountsEachAddressOnce", unfollowed := true, recurses := true, apart := false }
def FnMajorityOfASetCountsEachAddressOnceSaid : Prop := fnMajorityOfASetCountsEachAddressOnceRow.holds Try.pinned (OpenSpec.ofChange fnMajorityOfASetCountsEachAddressOnceSpec)

/-- ITS FALSE NEIGHBOUR: 'it returns false'. Refute it at one input. -/
def fnMajorityOfASetCountsEachAddressOnceWrong : ChangeSpec := { name := "fnMajorityOfASetCountsEachAddressOnce", fn := fun _ => fun
  | [d] => { results := [.lit (.bool false)], args := [d] }
  | _ => none }
def FnMajorityOfASetCountsEachAddressOnceWrongFalsely : Prop := fnMajorityOfASetCountsEachAddressOnceRow.holds Try.pinned (OpenSpec.ofChange fnMajorityOfASetCountsEachAddressOnceWrong)

/-- 'zzlaws_internal_server_b1.FnMovingReaderReportsEachRunningTotal': WHATEVER THE INPUT: true; the input reads as it did. -/
def fnMovingReaderReportsEachRunningTotalSpec : ChangeSpec := { name := "fnMovingReaderReportsEachRunningTotal", fn := fun _ => fun
  | [d1, d2, d3] => { results := [.lit (.bool true)], args := [d1, d2, d3] }
  | _ => none }
def fnMovingReaderReportsEachRunningTotalRow : OpenClaim := { program := "qxb6616331a", sum := "5db8f428efd8a44e3e9b0e1d78211c3976499c9a09c79949ee0d1a7f739f87d5", func := "example.com/acordo/acordo/zzlaws_internal_server_b1.FnMovingReaderReportsEachRunningTotal", spec := "fnMovingReaderReportsEachRunningTotal", unfollowed := true, recurses := true, apart := false }
def FnMovingReaderReportsEachRunningTotalSaid : Prop := fnMovingReaderReportsEachRunningTotalRow.holds Try.pinned (OpenSpec.ofChange fnMovingReaderReportsEachRunningTotalSpec)

/-- ITS FALSE NEIGHBOUR: 'it returns false'. Refute it at one input. -/
def fnMovingReaderReportsEachRunningTotalWrong : ChangeSpec := { name := "fnMovingReaderReportsEachRunningTotal", fn := fun _ => fun
  | [d1, d2, d3] => { results := [.lit (.bool false)], args := [d1, d2, d3] }
  | _ => none }
def FnMovingReaderReportsEachRunningTotalWrongFalsely : Prop := fnMovingReaderReportsEachRunningTotalRow.holds Try.pinned (OpenSpec.ofChange fnMovingReaderReportsEachRunningTotalWrong)

/-- 'zzlaws_internal_server_b1.FnMovingReaderCarriesItsTotalAcrossACut': WHATEVER THE INPUT: true; the input reads as it did. -/
def fnMovingReaderCarriesItsTotalAcrossACutSpec : ChangeSpec := { name := "fnMovingReaderCarriesItsTotalAcrossACut", fn := fun _ => fun
  | [d1, d2, d3, d4] => { results := [.lit (.bool true)], args := [d1, d2, d3, d4] }
  | _ => none }
def fnMovingReaderCarriesItsTotalAcrossACutRow : OpenClaim := { program := "qxb6616331a", sum := "5db8f428efd8a44e3e9b0e1d78211c3976499c9a09c79949ee0d1a7f739f87d5", func := "example.com/acordo/acordo/zzlaws_internal_server_b1.FnMovingReaderCarriesItsTotalAcrossACut", spec := "fnMovingReaderCarriesItsTotalAcrossACut", unfollowed := true, recurses := true, apart := false }
def FnMovingReaderCarriesItsTotalAcrossACutSaid : Prop := fnMovingReaderCarriesItsTotalAcrossACutRow.holds Try.pinned (OpenSpec.ofChange fnMovingReaderCarriesItsTotalAcrossACutSpec)

/-- ITS FALSE NEIGHBOUR: 'it returns false'. Refute it at one input. -/
def fnMovingReaderCarriesItsTotalAcrossACutWrong : ChangeSpec := { name := "fnMovingReaderCarriesItsTotalAcrossACut", fn := fun _ => fun
  | [d1, d2, d3, d4] => { results := [.lit (.bool false)], args := [d1, d2, d3, d4] }
  | _ => none }
def FnMovingReaderCarriesItsTotalAcrossACutWrongFalsely : Prop := fnMovingReaderCarriesItsTotalAcrossACutRow.holds Try.pinned (OpenSpec.ofChange fnMovingReaderCarriesItsTotalAcrossACutWrong)

end Rows
end Go.Proofs.Qxb6616331a
