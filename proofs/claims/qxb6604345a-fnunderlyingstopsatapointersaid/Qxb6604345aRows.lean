/-
  No cell of these rows narrows 'for every input' (looked for: loops, veiled, ifaces, maps, wideKeys, modest, calm, conditions, laid).
  DERIVED. THE GIVEN ROWS OF THIS SEAT. 4 by the template 'for every input the law returns true; each argument reads behind the call as it read before'; 0 by the template 'total and deterministic' (their statements: Qxb6604345aTotals.lean).
  GIVEN WITH THE SEED: the statements are not yours to turn. If you find one false, say at which input.
  Laid BY PROGRAM, IN A SANDBOX (cutbox-rows.mjs): the forced cells as the released guide's own fill.sh prints them over the translation 90df829e93104c8e… (all of the seat's roots in one cut). By AI agents, Wed Nov 11 2026. No macro, syntax, notation, axiom, sorry.
-/
import Derived.Test.Qxb6604345aChecked
import GoSem.Claim
import GoSem.ClaimJoined
import GoSem.ClaimMapViews
import Derived.JoinedTies
import Derived.KernelRfl
namespace Go.Proofs.Qxb6604345a
/- THE CELL 'sum', in the pinned program and in every row, IS THE sha256 OF THE DUMP (.gsa) THAT Qxb6604345aProg.lean LOADS. Nothing in Lean hashes anything: it is a label: what it is worth is what the hold of that sum in a sandbox is worth. -/
noncomputable def Try.pinned : Pinned := { name := "qxb6604345a", sum := "90df829e93104c8efed324e51afd2244a9f1be1b90f867103b14463c17c62c02", checked := Try.checked }
namespace Rows
def none {H : Type} : Left H := { results := [], args := [] }

/-- 'zzlaws_pkg_cc_b1.FnSkipToMatchesDepthScan': WHATEVER THE INPUT: true; the input reads as it did. -/
def fnSkipToMatchesDepthScanSpec : ChangeSpec := { name := "fnSkipToMatchesDepthScan", fn := fun _ => fun
  | [d1, d2, d3] => { results := [.lit (.bool true)], args := [d1, d2, d3] }
  | _ => none }
def fnSkipToMatchesDepthScanRow : OpenClaim := { program := "qxb6604345a", sum := "90df829e93104c8efed324e51afd2244a9f1be1b90f867103b14463c17c62c02", func := "example.com/ligature/ligature/zzlaws_pkg_cc_b1.FnSkipToMatchesDepthScan", spec := "fnSkipToMatchesDepthScan", apart := false }
def FnSkipToMatchesDepthScanSaid : Prop := fnSkipToMatchesDepthScanRow.holds Try.pinned (OpenSpec.ofChange fnSkipToMatchesDepthScanSpec)

/-- ITS FALSE NEIGHBOUR: 'it returns false'. Refute it at one input. -/
def fnSkipToMatchesDepthScanWrong : ChangeSpec := { name := "fnSkipToMatchesDepthScan", fn := fun _ => fun
  | [d1, d2, d3] => { results := [.lit (.bool false)], args := [d1, d2, d3] }
  | _ => none }
def FnSkipToMatchesDepthScanWrongFalsely : Prop := fnSkipToMatchesDepthScanRow.holds Try.pinned (OpenSpec.ofChange fnSkipToMatchesDepthScanWrong)

/-- 'zzlaws_pkg_cc_b1.FnSkipToHitIsAFixpointAndLocal': WHATEVER THE INPUT: true; the input reads as it did. -/
def fnSkipToHitIsAFixpointAndLocalSpec : ChangeSpec := { name := "fnSkipToHitIsAFixpointAndLocal", fn := fun _ => fun
  | [d1, d2, d3] => { results := [.lit (.bool true)], args := [d1, d2, d3] }
  | _ => none }
def fnSkipToHitIsAFixpointAndLocalRow : OpenClaim := { program := "qxb6604345a", sum := "90df829e93104c8efed324e51afd2244a9f1be1b90f867103b14463c17c62c02", func := "example.com/ligature/ligature/zzlaws_pkg_cc_b1.FnSkipToHitIsAFixpointAndLocal", spec := "fnSkipToHitIsAFixpointAndLocal", apart := false }
def FnSkipToHitIsAFixpointAndLocalSaid : Prop := fnSkipToHitIsAFixpointAndLocalRow.holds Try.pinned (OpenSpec.ofChange fnSkipToHitIsAFixpointAndLocalSpec)

/-- ITS FALSE NEIGHBOUR: 'it returns false'. Refute it at one input. -/
def fnSkipToHitIsAFixpointAndLocalWrong : ChangeSpec := { name := "fnSkipToHitIsAFixpointAndLocal", fn := fun _ => fun
  | [d1, d2, d3] => { results := [.lit (.bool false)], args := [d1, d2, d3] }
  | _ => none }
def FnSkipToHitIsAFixpointAndLocalWrongFalsely : Prop := fnSkipToHitIsAFixpointAndLocalRow.holds Try.pinned (OpenSpec.ofChange fnSkipToHitIsAFixpointAndLocalWrong)

/-- 'zzlaws_pkg_cc_b1.FnUnderlyingStripsEveryTypedefAndQualifier': WHATEVER THE INPUT: true; the input reads as it did. -/
def fnUnderlyingStripsEveryTypedefAndQualifierSpec : ChangeSpec := { name := "fnUnderlyingStripsEveryTypedefAndQualifier", fn := fun _ => fun
  | [d1, d2, d3] => { results := [.lit (.bool true)], args := [d1, d2, d3] }
  | _ => none }
def fnUnderlyingStripsEveryTypedefAndQualifierRow : OpenClaim := { program := "qxb6604345a", sum := "90df829e93104c8efed324e51afd2244a9f1be1b90f867103b14463c17c62c02", func := "example.com/ligature/ligature/zzlaws_pkg_cc_b1.FnUnderlyingStripsEveryTypedefAndQualifier", spec := "fnUnderlyingStripsEveryTypedefAndQualifier", apart := false }
def FnUnderlyingStripsEveryTypedefAndQualifierSaid : Prop := fnUnderlyingStripsEveryTypedefAndQualifierRow.holds Try.pinned (OpenSpec.ofChange fnUnderlyingStripsEveryTypedefAndQualifierSpec)

/-- ITS FALSE NEIGHBOUR: 'it returns false'. Refute it at one input. -/
def fnUnderlyingStripsEveryTypedefAndQualifierWrong : ChangeSpec := { name := "fnUnderlyingStripsEveryTypedefAndQualifier", fn := fun _ => fun
  | [d1, d2, d3] => { results := [.lit (.bool false)], args := [d1, d2, d3] }
  | _ => none }
def FnUnderlyingStripsEveryTypedefAndQualifierWrongFalsely : Prop := fnUnderlyingStripsEveryTypedefAndQualifierRow.holds Try.pinned (OpenSpec.ofChange fnUnderlyingStripsEveryTypedefAndQualifierWrong)

/-- 'zzlaws_pkg_cc_b1.FnUnderlyingStopsAtAPointer': WHATEVER THE INPUT: true; the input reads as it did. -/
def fnUnderlyingStopsAtAPointerSpec : ChangeSpec := { name := "fnUnderlyingStopsAtAPointer", fn := fun _ => fun
  | [d1, d2, d3, d4] => { results := [.lit (.bool true)], args := [d1, d2, d3, d4] }
  | _ => none }
def fnUnderlyingStopsAtAPointerRow : OpenClaim := { program := "qxb6604345a", sum := "90df829e93104c8efed324e51afd2244a9f1be1b90f867103b14463c17c62c02", func := "example.com/ligature/ligature/zzlaws_pkg_cc_b1.FnUnderlyingStopsAtAPointer", spec := "fnUnderlyingStopsAtAPointer", apart := false }
def FnUnderlyingStopsAtAPointerSaid : Prop := fnUnderlyingStopsAtAPointerRow.holds Try.pinned (OpenSpec.ofChange fnUnderlyingStopsAtAPointerSpec)

/-- ITS FALSE NEIGHBOUR: 'it returns false'. Refute it at one input. -/
def fnUnderlyingStopsAtAPointerWrong : ChangeSpec := { name := "fnUnderlyingStopsAtAPointer", fn := fun _ => fun
  | [d1, d2, d3, d4] => { results := [.lit (.bool false)], args := [d1, d2, d3, d4] }
  | _ => none }
def FnUnderlyingStopsAtAPointerWrongFalsely : Prop := fnUnderlyingStopsAtAPointerRow.holds Try.pinned (OpenSpec.ofChange fnUnderlyingStopsAtAPointerWrong)

end Rows
end Go.Proofs.Qxb6604345a
