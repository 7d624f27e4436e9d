/-
  No cell of these rows narrows 'for every input' (looked for: loops, veiled, ifaces, maps, wideKeys, modest, calm, conditions, laid).
  DERIVED. THE GIVEN ROWS OF THIS SEAT. 5 by the template 'for every input the law returns true; each argument reads behind the call as it read before'; 0 by the template 'total and deterministic' (their statements: Qxb6603453aTotals.lean).
  GIVEN WITH THE SEED: the statements are not yours to turn. If you find one false, say at which input.
  Laid BY PROGRAM, IN A SANDBOX (cutbox-rows.mjs): the forced cells as the released guide's own fill.sh prints them over the translation 49886d06a56171f3… (all of the seat's roots in one cut). By AI agents, Wed Nov 11 2026. No macro, syntax, notation, axiom, sorry.
-/
import Derived.Test.Qxb6603453aChecked
import GoSem.Claim
import GoSem.ClaimJoined
import GoSem.ClaimMapViews
import Derived.JoinedTies
import Derived.KernelRfl
namespace Go.Proofs.Qxb6603453a
/- THE CELL 'sum', in the pinned program and in every row, IS THE sha256 OF THE DUMP (.gsa) THAT Qxb6603453aProg.lean LOADS. Nothing in Lean hashes anything: it is a label: what it is worth is what the hold of that sum in a sandbox is worth. -/
noncomputable def Try.pinned : Pinned := { name := "qxb6603453a", sum := "49886d06a56171f3a652fc6b12c673e058335772ba8d4b3a5ece67b1856083ed", checked := Try.checked }
namespace Rows
def none {H : Type} : Left H := { results := [], args := [] }

/-- 'zzlaws_pkg_raft_b1.FnNewConfigurationWhoCountsIgnoresSelf': WHATEVER THE INPUT: true; the input reads as it did. -/
def fnNewConfigurationWhoCountsIgnoresSelfSpec : ChangeSpec := { name := "fnNewConfigurationWhoCountsIgnoresSelf", fn := fun _ => fun
  | [d1, d2, d3] => { results := [.lit (.bool true)], args := [d1, d2, d3] }
  | _ => none }
def fnNewConfigurationWhoCountsIgnoresSelfRow : OpenClaim := { program := "qxb6603453a", sum := "49886d06a56171f3a652fc6b12c673e058335772ba8d4b3a5ece67b1856083ed", func := "example.com/quorumlog/quorumlog/zzlaws_pkg_raft_b1.FnNewConfigurationWhoCountsIgnoresSelf", spec := "fnNewConfigurationWhoCountsIgnoresSelf", apart := false }
def FnNewConfigurationWhoCountsIgnoresSelfSaid : Prop := fnNewConfigurationWhoCountsIgnoresSelfRow.holds Try.pinned (OpenSpec.ofChange fnNewConfigurationWhoCountsIgnoresSelfSpec)

/-- ITS FALSE NEIGHBOUR: 'it returns false'. Refute it at one input. -/
def fnNewConfigurationWhoCountsIgnoresSelfWrong : ChangeSpec := { name := "fnNewConfigurationWhoCountsIgnoresSelf", fn := fun _ => fun
  | [d1, d2, d3] => { results := [.lit (.bool false)], args := [d1, d2, d3] }
  | _ => none }
def FnNewConfigurationWhoCountsIgnoresSelfWrongFalsely : Prop := fnNewConfigurationWhoCountsIgnoresSelfRow.holds Try.pinned (OpenSpec.ofChange fnNewConfigurationWhoCountsIgnoresSelfWrong)

/-- 'zzlaws_pkg_raft_b1.FnPartDecodesAndAgreesWithVotes': WHATEVER THE INPUT: true; the input reads as it did. -/
def fnPartDecodesAndAgreesWithVotesSpec : ChangeSpec := { name := "fnPartDecodesAndAgreesWithVotes", fn := fun _ => fun
  | [d1, d2, d3, d4, d5] => { results := [.lit (.bool true)], args := [d1, d2, d3, d4, d5] }
  | _ => none }
def fnPartDecodesAndAgreesWithVotesRow : OpenClaim := { program := "qxb6603453a", sum := "49886d06a56171f3a652fc6b12c673e058335772ba8d4b3a5ece67b1856083ed", func := "example.com/quorumlog/quorumlog/zzlaws_pkg_raft_b1.FnPartDecodesAndAgreesWithVotes", spec := "fnPartDecodesAndAgreesWithVotes", apart := false }
def FnPartDecodesAndAgreesWithVotesSaid : Prop := fnPartDecodesAndAgreesWithVotesRow.holds Try.pinned (OpenSpec.ofChange fnPartDecodesAndAgreesWithVotesSpec)

/-- ITS FALSE NEIGHBOUR: 'it returns false'. Refute it at one input. -/
def fnPartDecodesAndAgreesWithVotesWrong : ChangeSpec := { name := "fnPartDecodesAndAgreesWithVotes", fn := fun _ => fun
  | [d1, d2, d3, d4, d5] => { results := [.lit (.bool false)], args := [d1, d2, d3, d4, d5] }
  | _ => none }
def FnPartDecodesAndAgreesWithVotesWrongFalsely : Prop := fnPartDecodesAndAgreesWithVotesRow.holds Try.pinned (OpenSpec.ofChange fnPartDecodesAndAgreesWithVotesWrong)

/-- 'zzlaws_pkg_raft_b1.FnJoiningCaseTable': WHATEVER THE INPUT: true; the input reads as it did. -/
def fnJoiningCaseTableSpec : ChangeSpec := { name := "fnJoiningCaseTable", fn := fun _ => fun
  | [d1, d2] => { results := [.lit (.bool true)], args := [d1, d2] }
  | _ => none }
def fnJoiningCaseTableRow : OpenClaim := { program := "qxb6603453a", sum := "49886d06a56171f3a652fc6b12c673e058335772ba8d4b3a5ece67b1856083ed", func := "example.com/quorumlog/quorumlog/zzlaws_pkg_raft_b1.FnJoiningCaseTable", spec := "fnJoiningCaseTable", apart := false }
def FnJoiningCaseTableSaid : Prop := fnJoiningCaseTableRow.holds Try.pinned (OpenSpec.ofChange fnJoiningCaseTableSpec)

/-- ITS FALSE NEIGHBOUR: 'it returns false'. Refute it at one input. -/
def fnJoiningCaseTableWrong : ChangeSpec := { name := "fnJoiningCaseTable", fn := fun _ => fun
  | [d1, d2] => { results := [.lit (.bool false)], args := [d1, d2] }
  | _ => none }
def FnJoiningCaseTableWrongFalsely : Prop := fnJoiningCaseTableRow.holds Try.pinned (OpenSpec.ofChange fnJoiningCaseTableWrong)

/-- 'zzlaws_pkg_raft_b1.FnJoiningKeepsBothConfigurations': WHATEVER THE INPUT: true; the input reads as it did. -/
def fnJoiningKeepsBothConfigurationsSpec : ChangeSpec := { name := "fnJoiningKeepsBothConfigurations", fn := fun _ => fun
  | [d1, d2] => { results := [.lit (.bool true)], args := [d1, d2] }
  | _ => none }
def fnJoiningKeepsBothConfigurationsRow : OpenClaim := { program := "qxb6603453a", sum := "49886d06a56171f3a652fc6b12c673e058335772ba8d4b3a5ece67b1856083ed", func := "example.com/quorumlog/quorumlog/zzlaws_pkg_raft_b1.FnJoiningKeepsBothConfigurations", spec := "fnJoiningKeepsBothConfigurations", apart := false }
def FnJoiningKeepsBothConfigurationsSaid : Prop := fnJoiningKeepsBothConfigurationsRow.holds Try.pinned (OpenSpec.ofChange fnJoiningKeepsBothConfigurationsSpec)

/-- ITS FALSE NEIGHBOUR: 'it returns false'. Refute it at one input. -/
def fnJoiningKeepsBothConfigurationsWrong : ChangeSpec := { name := "fnJoiningKeepsBothConfigurations", fn := fun _ => fun
  | [d1, d2] => { results := [.lit (.bool false)], args := [d1, d2] }
  | _ => none }
def FnJoiningKeepsBothConfigurationsWrongFalsely : Prop := fnJoiningKeepsBothConfigurationsRow.holds Try.pinned (OpenSpec.ofChange fnJoiningKeepsBothConfigurationsWrong)

/-- 'zzlaws_pkg_raft_b1.FnNewConfigurationOfAJoiningCountsBoth': WHATEVER THE INPUT: true; the input reads as it did. -/
def fnNewConfigurationOfAJoiningCountsBothSpec : ChangeSpec := { name := "fnNewConfigurationOfAJoiningCountsBoth", fn := fun _ => fun
  | [d1, d2, d3] => { results := [.lit (.bool true)], args := [d1, d2, d3] }
  | _ => none }
def fnNewConfigurationOfAJoiningCountsBothRow : OpenClaim := { program := "qxb6603453a", sum := "49886d06a56171f3a652fc6b12c673e058335772ba8d4b3a5ece67b1856083ed", func := "example.com/quorumlog/quorumlog/zzlaws_pkg_raft_b1.FnNewConfigurationOfAJoiningCountsBoth", spec := "fnNewConfigurationOfAJoiningCountsBoth", apart := false }
def FnNewConfigurationOfAJoiningCountsBothSaid : Prop := fnNewConfigurationOfAJoiningCountsBothRow.holds Try.pinned (OpenSpec.ofChange fnNewConfigurationOfAJoiningCountsBothSpec)

/-- ITS FALSE NEIGHBOUR: 'it returns false'. Refute it at one input. -/
def fnNewConfigurationOfAJoiningCountsBothWrong : ChangeSpec := { name := "fnNewConfigurationOfAJoiningCountsBoth", fn := fun _ => fun
  | [d1, d2, d3] => { results := [.lit (.bool false)], args := [d1, d2, d3] }
  | _ => none }
def FnNewConfigurationOfAJoiningCountsBothWrongFalsely : Prop := fnNewConfigurationOfAJoiningCountsBothRow.holds Try.pinned (OpenSpec.ofChange fnNewConfigurationOfAJoiningCountsBothWrong)

end Rows
end Go.Proofs.Qxb6603453a
