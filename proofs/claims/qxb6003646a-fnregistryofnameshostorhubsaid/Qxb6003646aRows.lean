/-
  No cell of these rows narrows 'for every input' (looked for: loops, veiled, ifaces, maps, wideKeys, modest, calm, conditions, laid).
  DERIVED. THE GIVEN ROWS OF THIS SEAT. 6 by the template 'for every input the law returns true; each argument reads behind the call as it read before'; 0 by the template 'total and deterministic' (their statements: Qxb6003646aTotals.lean).
  GIVEN WITH THE SEED: the statements are not yours to turn. If you find one false, say at which input.
  Laid BY PROGRAM, IN A SANDBOX (cutbox-rows.mjs): the forced cells as the released guide's own fill.sh prints them over the translation 3125862df382d542… (all of the seat's roots in one cut). By AI agents, Wed Nov 11 2026. No macro, syntax, notation, axiom, sorry.
-/
import Derived.Test.Qxb6003646aChecked
import GoSem.Claim
import GoSem.ClaimJoined
import GoSem.ClaimMapViews
import Derived.JoinedTies
import Derived.KernelRfl
namespace Go.Proofs.Qxb6003646a
/- THE CELL 'sum', in the pinned program and in every row, IS THE sha256 OF THE DUMP (.gsa) THAT Qxb6003646aProg.lean LOADS. Nothing in Lean hashes anything: it is a label: what it is worth is what the hold of that sum in a sandbox is worth. -/
noncomputable def Try.pinned : Pinned := { name := "qxb6003646a", sum := "3125862df382d542f1c04739de6fa96bb3793929aa47218b776683803b584199", checked := Try.checked }
namespace Rows
def none {H : Type} : Left H := { results := [], args := [] }

/-- 'zzlaws_root_b1.FnSplitReferenceDigestOverridesVersionKeepsRepository': WHATEVER THE INPUT: true; the input reads as it did. -/
def fnSplitReferenceDigestOverridesVersionKeepsRepositorySpec : ChangeSpec := { name := "fnSplitReferenceDigestOverridesVersionKeepsRepository", fn := fun _ => fun
  | [d1, d2] => { results := [.lit (.bool true)], args := [d1, d2] }
  | _ => none }
def fnSplitReferenceDigestOverridesVersionKeepsRepositoryRow : OpenClaim := { program := "qxb6003646a", sum := "3125862df382d542f1c04739de6fa96bb3793929aa47218b776683803b584199", func := "example.com/terrarium-rig/terrarium-rig/zzlaws_root_b1.FnSplitReferenceDigestOverridesVersionKeepsRepository", spec := "fnSplitReferenceDigestOverridesVersionKeepsRepository", inPlace := ["internal/bytealg.IndexByteString", "internal/bytealg.IndexString"], named := ["internal/bytealg.MaxLen"], apart := false }
def FnSplitReferenceDigestOverridesVersionKeepsRepositorySaid : Prop := fnSplitReferenceDigestOverridesVersionKeepsRepositoryRow.holds Try.pinned (OpenSpec.ofChange fnSplitReferenceDigestOverridesVersionKeepsRepositorySpec)

/-- ITS FALSE NEIGHBOUR: 'it returns false'. Refute it at one input. -/
def fnSplitReferenceDigestOverridesVersionKeepsRepositoryWrong : ChangeSpec := { name := "fnSplitReferenceDigestOverridesVersionKeepsRepository", fn := fun _ => fun
  | [d1, d2] => { results := [.lit (.bool false)], args := [d1, d2] }
  | _ => none }
def FnSplitReferenceDigestOverridesVersionKeepsRepositoryWrongFalsely : Prop := fnSplitReferenceDigestOverridesVersionKeepsRepositoryRow.holds Try.pinned (OpenSpec.ofChange fnSplitReferenceDigestOverridesVersionKeepsRepositoryWrong)

/-- 'zzlaws_root_b1.FnSplitReferenceTagRoundTrip': WHATEVER THE INPUT: true; the input reads as it did. -/
def fnSplitReferenceTagRoundTripSpec : ChangeSpec := { name := "fnSplitReferenceTagRoundTrip", fn := fun _ => fun
  | [d1, d2, d3] => { results := [.lit (.bool true)], args := [d1, d2, d3] }
  | _ => none }
def fnSplitReferenceTagRoundTripRow : OpenClaim := { program := "qxb6003646a", sum := "3125862df382d542f1c04739de6fa96bb3793929aa47218b776683803b584199", func := "example.com/terrarium-rig/terrarium-rig/zzlaws_root_b1.FnSplitReferenceTagRoundTrip", spec := "fnSplitReferenceTagRoundTrip", inPlace := ["internal/bytealg.IndexByteString", "internal/bytealg.IndexString"], named := ["internal/bytealg.MaxLen"], apart := false }
def FnSplitReferenceTagRoundTripSaid : Prop := fnSplitReferenceTagRoundTripRow.holds Try.pinned (OpenSpec.ofChange fnSplitReferenceTagRoundTripSpec)

/-- ITS FALSE NEIGHBOUR: 'it returns false'. Refute it at one input. -/
def fnSplitReferenceTagRoundTripWrong : ChangeSpec := { name := "fnSplitReferenceTagRoundTrip", fn := fun _ => fun
  | [d1, d2, d3] => { results := [.lit (.bool false)], args := [d1, d2, d3] }
  | _ => none }
def FnSplitReferenceTagRoundTripWrongFalsely : Prop := fnSplitReferenceTagRoundTripRow.holds Try.pinned (OpenSpec.ofChange fnSplitReferenceTagRoundTripWrong)

/-- 'zzlaws_root_b1.FnRegistryOfNamesHostOrHub': WHATEVER THE INPUT: true; the input reads as it did. -/
def fnRegistryOfNamesHostOrHubSpec : ChangeSpec := { name := "fnRegistryOfNamesHostOrHub", fn := fun _ => fun
  | [d1, d2, d3] => { results := [.lit (.bool true)], args := [d1, d2, d3] }
  | _ => none }
def fnRegistryOfNamesHostOrHubRow : OpenClaim := { program := "qxb6003646a", sum := "3125862df382d542f1c04739de6fa96bb3793929aa47218b776683803b584199", func := "example.com/terrarium-rig/terrarium-rig/zzlaws_root_b1.FnRegistryOfNamesHostOrHub", spec := "fnRegistryOfNamesHostOrHub", inPlace := ["internal/bytealg.IndexByteString", "internal/bytealg.IndexString"], named := ["internal/bytealg.MaxLen"], apart := false }
def FnRegistryOfNamesHostOrHubSaid : Prop := fnRegistryOfNamesHostOrHubRow.holds Try.pinned (OpenSpec.ofChange fnRegistryOfNamesHostOrHubSpec)

/-- ITS FALSE NEIGHBOUR: 'it returns false'. Refute it at one input. -/
def fnRegistryOfNamesHostOrHubWrong : ChangeSpec := { name := "fnRegistryOfNamesHostOrHub", fn := fun _ => fun
  | [d1, d2, d3] => { results := [.lit (.bool false)], args := [d1, d2, d3] }
  | _ => none }
def FnRegistryOfNamesHostOrHubWrongFalsely : Prop := fnRegistryOfNamesHostOrHubRow.holds Try.pinned (OpenSpec.ofChange fnRegistryOfNamesHostOrHubWrong)

/-- 'zzlaws_root_b1.FnRegistryOfBareNameIsHub': WHATEVER THE INPUT: true; the input reads as it did. -/
def fnRegistryOfBareNameIsHubSpec : ChangeSpec := { name := "fnRegistryOfBareNameIsHub", fn := fun _ => fun
  | [d1, d2] => { results := [.lit (.bool true)], args := [d1, d2] }
  | _ => none }
def fnRegistryOfBareNameIsHubRow : OpenClaim := { program := "qxb6003646a", sum := "3125862df382d542f1c04739de6fa96bb3793929aa47218b776683803b584199", func := "example.com/terrarium-rig/terrarium-rig/zzlaws_root_b1.FnRegistryOfBareNameIsHub", spec := "fnRegistryOfBareNameIsHub", inPlace := ["internal/bytealg.IndexByteString", "internal/bytealg.IndexString"], named := ["internal/bytealg.MaxLen"], apart := false }
def FnRegistryOfBareNameIsHubSaid : Prop := fnRegistryOfBareNameIsHubRow.holds Try.pinned (OpenSpec.ofChange fnRegistryOfBareNameIsHubSpec)

/-- ITS FALSE NEIGHBOUR: 'it returns false'. Refute it at one input. -/
def fnRegistryOfBareNameIsHubWrong : ChangeSpec := { name := "fnRegistryOfBareNameIsHub", fn := fun _ => fun
  | [d1, d2] => { results := [.lit (.bool false)], args := [d1, d2] }
  | _ => none }
def FnRegistryOfBareNameIsHubWrongFalsely : Prop := fnRegistryOfBareNameIsHubRow.holds Try.pinned (OpenSpec.ofChange fnRegistryOfBareNameIsHubWrong)

/-- 'zzlaws_root_b1.FnReplicaNamesLayout': WHATEVER THE INPUT: true; the input reads as it did. -/
def fnReplicaNamesLayoutSpec : ChangeSpec := { name := "fnReplicaNamesLayout", fn := fun _ => fun
  | [d1, d2, d3, d4] => { results := [.lit (.bool true)], args := [d1, d2, d3, d4] }
  | _ => none }
def fnReplicaNamesLayoutRow : OpenClaim := { program := "qxb6003646a", sum := "3125862df382d542f1c04739de6fa96bb3793929aa47218b776683803b584199", func := "example.com/terrarium-rig/terrarium-rig/zzlaws_root_b1.FnReplicaNamesLayout", spec := "fnReplicaNamesLayout", apart := false }
def FnReplicaNamesLayoutSaid : Prop := fnReplicaNamesLayoutRow.holds Try.pinned (OpenSpec.ofChange fnReplicaNamesLayoutSpec)

/-- ITS FALSE NEIGHBOUR: 'it returns false'. Refute it at one input. -/
def fnReplicaNamesLayoutWrong : ChangeSpec := { name := "fnReplicaNamesLayout", fn := fun _ => fun
  | [d1, d2, d3, d4] => { results := [.lit (.bool false)], args := [d1, d2, d3, d4] }
  | _ => none }
def FnReplicaNamesLayoutWrongFalsely : Prop := fnReplicaNamesLayoutRow.holds Try.pinned (OpenSpec.ofChange fnReplicaNamesLayoutWrong)

/-- 'zzlaws_root_b1.FnReplicaNamesSubdomainsSplitAtAnyCut': WHATEVER THE INPUT: true; the input reads as it did. -/
def fnReplicaNamesSubdomainsSplitAtAnyCutSpec : ChangeSpec := { name := "fnReplicaNamesSubdomainsSplitAtAnyCut", fn := fun _ => fun
  | [d1, d2, d3, d4, d5] => { results := [.lit (.bool true)], args := [d1, d2, d3, d4, d5] }
  | _ => none }
def fnReplicaNamesSubdomainsSplitAtAnyCutRow : OpenClaim := { program := "qxb6003646a", sum := "3125862df382d542f1c04739de6fa96bb3793929aa47218b776683803b584199", func := "example.com/terrarium-rig/terrarium-rig/zzlaws_root_b1.FnReplicaNamesSubdomainsSplitAtAnyCut", spec := "fnReplicaNamesSubdomainsSplitAtAnyCut", apart := false }
def FnReplicaNamesSubdomainsSplitAtAnyCutSaid : Prop := fnReplicaNamesSubdomainsSplitAtAnyCutRow.holds Try.pinned (OpenSpec.ofChange fnReplicaNamesSubdomainsSplitAtAnyCutSpec)

/-- ITS FALSE NEIGHBOUR: 'it returns false'. Refute it at one input. -/
def fnReplicaNamesSubdomainsSplitAtAnyCutWrong : ChangeSpec := { name := "fnReplicaNamesSubdomainsSplitAtAnyCut", fn := fun _ => fun
  | [d1, d2, d3, d4, d5] => { results := [.lit (.bool false)], args := [d1, d2, d3, d4, d5] }
  | _ => none }
def FnReplicaNamesSubdomainsSplitAtAnyCutWrongFalsely : Prop := fnReplicaNamesSubdomainsSplitAtAnyCutRow.holds Try.pinned (OpenSpec.ofChange fnReplicaNamesSubdomainsSplitAtAnyCutWrong)

end Rows
end Go.Proofs.Qxb6003646a
