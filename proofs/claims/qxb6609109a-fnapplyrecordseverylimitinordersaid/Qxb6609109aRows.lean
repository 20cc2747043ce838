/-
  No cell of these rows narrows 'for every input' (looked for: loops, veiled, ifaces, maps, wideKeys, modest, calm, conditions, laid).
  DERIVED. THE GIVEN ROWS OF THIS SEAT. 2 by the template 'for every input the law returns true; each argument reads behind the call as it read before'; 0 by the template 'total and deterministic' (their statements: Qxb6609109aTotals.lean).
  GIVEN WITH THE SEED: the statements are not yours to turn. If you find one false, say at which input.
  Laid BY PROGRAM, IN A SANDBOX (cutbox-rows.mjs): the forced cells as the released guide's own fill.sh prints them over the translation 5565ec8e3c4f0f64… (all of the seat's roots in one cut). By AI agents, Wed Nov 11 2026. No macro, syntax, notation, axiom, sorry.
-/
import Derived.Test.Qxb6609109aChecked
import GoSem.Claim
import GoSem.ClaimJoined
import GoSem.ClaimMapViews
import Derived.JoinedTies
import Derived.KernelRfl
namespace Go.Proofs.Qxb6609109a
/- THE CELL 'sum', in the pinned program and in every row, IS THE sha256 OF THE DUMP (.gsa) THAT Qxb6609109aProg.lean LOADS. Nothing in Lean hashes anything: it is a label: what it is worth is what the hold of that sum in a sandbox is worth. -/
noncomputable def Try.pinned : Pinned := { name := "qxb6609109a", sum := "5565ec8e3c4f0f64911ab3f98f71c61ca3e977268065486e556b4d236dba650c", checked := Try.checked }
namespace Rows
def none {H : Type} : Left H := { results := [], args := [] }

/-- 'zzlaws_root_b1.FnApplyRecordsEveryLimitInOrder': WHATEVER THE INPUT: true; the input reads as it did. -/
def fnApplyRecordsEveryLimitInOrderSpec : ChangeSpec := { name := "fnApplyRecordsEveryLimitInOrder", fn := fun _ => fun
  | [d1, d2] => { results := [.lit (.bool true)], args := [d1, d2] }
  | _ => none }
def fnApplyRecordsEveryLimitInOrderRow : OpenClaim := { program := "qxb6609109a", sum := "5565ec8e3c4f0f64911ab3f98f71c61ca3e977268065486e556b4d236dba650c", func := "example.com/valv/valv/zzlaws_root_b1.FnApplyRecordsEveryLimitInOrder", spec := "fnApplyRecordsEveryLimitInOrder", apart := false }
def FnApplyRecordsEveryLimitInOrderSaid : Prop := fnApplyRecordsEveryLimitInOrderRow.holds Try.pinned (OpenSpec.ofChange fnApplyRecordsEveryLimitInOrderSpec)

/-- ITS FALSE NEIGHBOUR: 'it returns false'. Refute it at one input. -/
def fnApplyRecordsEveryLimitInOrderWrong : ChangeSpec := { name := "fnApplyRecordsEveryLimitInOrder", fn := fun _ => fun
  | [d1, d2] => { results := [.lit (.bool false)], args := [d1, d2] }
  | _ => none }
def FnApplyRecordsEveryLimitInOrderWrongFalsely : Prop := fnApplyRecordsEveryLimitInOrderRow.holds Try.pinned (OpenSpec.ofChange fnApplyRecordsEveryLimitInOrderWrong)

/-- 'zzlaws_root_b1.FnTallyDenialOneTokenMore': WHATEVER THE INPUT: true; the input reads as it did. -/
def fnTallyDenialOneTokenMoreSpec : ChangeSpec := { name := "fnTallyDenialOneTokenMore", fn := fun _ => fun
  | [d1, d2, d3, d4] => { results := [.lit (.bool true)], args := [d1, d2, d3, d4] }
  | _ => none }
def fnTallyDenialOneTokenMoreRow : OpenClaim := { program := "qxb6609109a", sum := "5565ec8e3c4f0f64911ab3f98f71c61ca3e977268065486e556b4d236dba650c", func := "example.com/valv/valv/zzlaws_root_b1.FnTallyDenialOneTokenMore", spec := "fnTallyDenialOneTokenMore", named := ["math/bits.divideError", "math/bits.overflowError"], apart := false }
def FnTallyDenialOneTokenMoreSaid : Prop := fnTallyDenialOneTokenMoreRow.holds Try.pinned (OpenSpec.ofChange fnTallyDenialOneTokenMoreSpec)

/-- ITS FALSE NEIGHBOUR: 'it returns false'. Refute it at one input. -/
def fnTallyDenialOneTokenMoreWrong : ChangeSpec := { name := "fnTallyDenialOneTokenMore", fn := fun _ => fun
  | [d1, d2, d3, d4] => { results := [.lit (.bool false)], args := [d1, d2, d3, d4] }
  | _ => none }
def FnTallyDenialOneTokenMoreWrongFalsely : Prop := fnTallyDenialOneTokenMoreRow.holds Try.pinned (OpenSpec.ofChange fnTallyDenialOneTokenMoreWrong)

end Rows
end Go.Proofs.Qxb6609109a
