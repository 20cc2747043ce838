/-
  No cell of these rows narrows 'for every input' (looked for: loops, veiled, ifaces, maps, wideKeys, modest, calm, conditions, laid).
  DERIVED. THE GIVEN ROWS OF THIS SEAT. 3 by the template 'for every input the law returns true; each argument reads behind the call as it read before'; 0 by the template 'total and deterministic' (their statements: Qxb6609138aTotals.lean).
  GIVEN WITH THE SEED: the statements are not yours to turn. If you find one false, say at which input.
  Laid BY PROGRAM, IN A SANDBOX (cutbox-rows.mjs): the forced cells as the released guide's own fill.sh prints them over the translation 3278012c3f811a6f… (all of the seat's roots in one cut). By AI agents, Wed Nov 11 2026. No macro, syntax, notation, axiom, sorry.
-/
import Derived.Test.Qxb6609138aChecked
import GoSem.Claim
import GoSem.ClaimJoined
import GoSem.ClaimMapViews
import Derived.JoinedTies
import Derived.KernelRfl
namespace Go.Proofs.Qxb6609138a
/- THE CELL 'sum', in the pinned program and in every row, IS THE sha256 OF THE DUMP (.gsa) THAT Qxb6609138aProg.lean LOADS. Nothing in Lean hashes anything: it is a label: what it is worth is what the hold of that sum in a sandbox is worth. -/
noncomputable def Try.pinned : Pinned := { name := "qxb6609138a", sum := "3278012c3f811a6f4e1bb61d6f25071b941bb463e454eb50394912f97adbcdb7", checked := Try.checked }
namespace Rows
def none {H : Type} : Left H := { results := [], args := [] }

/-- 'zzlaws_internal_site_b1.FnEnvelopeSiteNilIsNoSite': WHATEVER THE INPUT: true; the input reads as it did. -/
def fnEnvelopeSiteNilIsNoSiteSpec : ChangeSpec := { name := "fnEnvelopeSiteNilIsNoSite", fn := fun _ => fun
  | [d1, d2, d3, d4, d5, d6, d7, d8, d9] => { results := [.lit (.bool true)], args := [d1, d2, d3, d4, d5, d6, d7, d8, d9] }
  | _ => none }
def fnEnvelopeSiteNilIsNoSiteRow : OpenClaim := { program := "qxb6609138a", sum := "3278012c3f811a6f4e1bb61d6f25071b941bb463e454eb50394912f97adbcdb7", func := "example.com/sandline/sandline/zzlaws_internal_site_b1.FnEnvelopeSiteNilIsNoSite", spec := "fnEnvelopeSiteNilIsNoSite", apart := false }
def FnEnvelopeSiteNilIsNoSiteSaid : Prop := fnEnvelopeSiteNilIsNoSiteRow.holds Try.pinned (OpenSpec.ofChange fnEnvelopeSiteNilIsNoSiteSpec)

/-- ITS FALSE NEIGHBOUR: 'it returns false'. Refute it at one input. -/
def fnEnvelopeSiteNilIsNoSiteWrong : ChangeSpec := { name := "fnEnvelopeSiteNilIsNoSite", fn := fun _ => fun
  | [d1, d2, d3, d4, d5, d6, d7, d8, d9] => { results := [.lit (.bool false)], args := [d1, d2, d3, d4, d5, d6, d7, d8, d9] }
  | _ => none }
def FnEnvelopeSiteNilIsNoSiteWrongFalsely : Prop := fnEnvelopeSiteNilIsNoSiteRow.holds Try.pinned (OpenSpec.ofChange fnEnvelopeSiteNilIsNoSiteWrong)

/-- 'zzlaws_internal_site_b1.FnLackingIsSortedUnconfirmedNames': WHATEVER THE INPUT: true; the input reads as it did. -/
def fnLackingIsSortedUnconfirmedNamesSpec : ChangeSpec := { name := "fnLackingIsSortedUnconfirmedNames", fn := fun _ => fun
  | [d1, d2, d3] => { results := [.lit (.bool true)], args := [d1, d2, d3] }
  | _ => none }
def fnLackingIsSortedUnconfirmedNamesRow : OpenClaim := { program := "qxb6609138a", sum := "3278012c3f811a6f4e1bb61d6f25071b941bb463e454eb50394912f97adbcdb7", func := "example.com/sandline/sandline/zzlaws_internal_site_b1.FnLackingIsSortedUnconfirmedNames", spec := "fnLackingIsSortedUnconfirmedNames", unfollowed := true, recurses := true, apart := false }
def FnLackingIsSortedUnconfirmedNamesSaid : Prop := fnLackingIsSortedUnconfirmedNamesRow.holds Try.pinned (OpenSpec.ofChange fnLackingIsSortedUnconfirmedNamesSpec)

/-- ITS FALSE NEIGHBOUR: 'it returns false'. Refute it at one input. -/
def fnLackingIsSortedUnconfirmedNamesWrong : ChangeSpec := { name := "fnLackingIsSortedUnconfirmedNames", fn := fun _ => fun
  | [d1, d2, d3] => { results := [.lit (.bool false)], args := [d1, d2, d3] }
  | _ => none }
def FnLackingIsSortedUnconfirmedNamesWrongFalsely : Prop := fnLackingIsSortedUnconfirmedNamesRow.holds Try.pinned (OpenSpec.ofChange fnLackingIsSortedUnconfirmedNamesWrong)

/-- 'zzlaws_internal_site_b1.FnConfirmingOneDropsItFromLacking': WHATEVER THE INPUT: true; the input reads as it did. -/
def fnConfirmingOneDropsItFromLackingSpec : ChangeSpec := { name := "fnConfirmingOneDropsItFromLacking", fn := fun _ => fun
  | [d1, d2, d3, d4] => { results := [.lit (.bool true)], args := [d1, d2, d3, d4] }
  | _ => none }
def fnConfirmingOneDropsItFromLackingRow : OpenClaim := { program := "qxb6609138a", sum := "3278012c3f811a6f4e1bb61d6f25071b941bb463e454eb50394912f97adbcdb7", func := "example.com/sandline/sandline/zzlaws_internal_site_b1.FnConfirmingOneDropsItFromLacking", spec := "fnConfirmingOneDropsItFromLacking", unfollowed := true, recurses := true, apart := false }
def FnConfirmingOneDropsItFromLackingSaid : Prop := fnConfirmingOneDropsItFromLackingRow.holds Try.pinned (OpenSpec.ofChange fnConfirmingOneDropsItFromLackingSpec)

/-- ITS FALSE NEIGHBOUR: 'it returns false'. Refute it at one input. -/
def fnConfirmingOneDropsItFromLackingWrong : ChangeSpec := { name := "fnConfirmingOneDropsItFromLacking", fn := fun _ => fun
  | [d1, d2, d3, d4] => { results := [.lit (.bool false)], args := [d1, d2, d3, d4] }
  | _ => none }
def FnConfirmingOneDropsItFromLackingWrongFalsely : Prop := fnConfirmingOneDropsItFromLackingRow.holds Try.pinned (OpenSpec.ofChange fnConfirmingOneDropsItFromLackingWrong)

end Rows
end Go.Proofs.Qxb6609138a
