/-
  No cell of these rows narrows 'for every input' (looked for: loops, veiled, ifaces, maps, wideKeys, modest, calm, conditions, laid).
  DERIVED. THE GIVEN ROWS OF THIS SEAT. 1 by the template 'for every input the law returns true; each argument reads behind the call as it read before'; 0 by the template 'total and deterministic' (their statements: Qxb6613675aTotals.lean).
  GIVEN WITH THE SEED: the statements are not yours to turn. If you find one false, say at which input.
  Laid BY PROGRAM, IN A SANDBOX (cutbox-rows.mjs): the forced cells as the released guide's own fill.sh prints them over the translation eefb1790871aa6d9… (all of the seat's roots in one cut). By AI agents, Wed Nov 11 2026. No macro, syntax, notation, axiom, sorry.
-/
import Derived.Test.Qxb6613675aChecked
import GoSem.Claim
import GoSem.ClaimJoined
import GoSem.ClaimMapViews
import Derived.JoinedTies
import Derived.KernelRfl
namespace Go.Proofs.Qxb6613675a
/- THE CELL 'sum', in the pinned program and in every row, IS THE sha256 OF THE DUMP (.gsa) THAT Qxb6613675aProg.lean LOADS. Nothing in Lean hashes anything: it is a label: what it is worth is what the hold of that sum in a sandbox is worth. -/
noncomputable def Try.pinned : Pinned := { name := "qxb6613675a", sum := "eefb1790871aa6d919634c402153b45cac1c1392698a8fef88eda2d82be3c514", checked := Try.checked }
namespace Rows
def none {H : Type} : Left H := { results := [], args := [] }

/-- 'zzlaws_internal_cmdline_b1.FnUseLineNamesAncestorsByFirstWord': WHATEVER THE INPUT: true; the input reads as it did. -/
def fnUseLineNamesAncestorsByFirstWordSpec : ChangeSpec := { name := "fnUseLineNamesAncestorsByFirstWord", fn := fun _ => fun
  | [d1, d2, d3, d4] => { results := [.lit (.bool true)], args := [d1, d2, d3, d4] }
  | _ => none }
def fnUseLineNamesAncestorsByFirstWordRow : OpenClaim := { program := "qxb6613675a", sum := "eefb1790871aa6d919634c402153b45cac1c1392698a8fef88eda2d82be3c514", func := "example.com/remand/remand/zzlaws_internal_cmdline_b1.FnUseLineNamesAncestorsByFirstWord", spec := "fnUseLineNamesAncestorsByFirstWord", inPlace := ["internal/bytealg.IndexByteString", "internal/bytealg.IndexString"], recurses := true, named := ["internal/bytealg.MaxLen"], apart := false }
def FnUseLineNamesAncestorsByFirstWordSaid : Prop := fnUseLineNamesAncestorsByFirstWordRow.holds Try.pinned (OpenSpec.ofChange fnUseLineNamesAncestorsByFirstWordSpec)

/-- ITS FALSE NEIGHBOUR: 'it returns false'. Refute it at one input. -/
def fnUseLineNamesAncestorsByFirstWordWrong : ChangeSpec := { name := "fnUseLineNamesAncestorsByFirstWord", fn := fun _ => fun
  | [d1, d2, d3, d4] => { results := [.lit (.bool false)], args := [d1, d2, d3, d4] }
  | _ => none }
def FnUseLineNamesAncestorsByFirstWordWrongFalsely : Prop := fnUseLineNamesAncestorsByFirstWordRow.holds Try.pinned (OpenSpec.ofChange fnUseLineNamesAncestorsByFirstWordWrong)

end Rows
end Go.Proofs.Qxb6613675a
