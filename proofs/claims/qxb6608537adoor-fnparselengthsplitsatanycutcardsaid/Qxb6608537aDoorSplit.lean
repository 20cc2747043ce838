/-
  The law FnParseLengthSplitsAtAnyCut: all cases together.
-/
import Derived.Test.Qxb6608537aDoorSplitW
import Derived.Test.Qxb6608537aDoorSplitE
import Derived.Test.Qxb6608537aDoorSplitDs
import Derived.Test.Qxb6608537aDoorSplitDe
import Derived.Test.Qxb6608537aDoorSplitDn
import Derived.Test.Qxb6608537aDoorSplitDv
import Derived.Test.Qxb6608537aDoorSplitDb
import Derived.Test.Qxb6608537aDoorSplitDc
namespace Go.Proofs.Qxb6608537aDoor
open Go.RowKit
open Plain

/-- ████ THE WALK OF THE LAW, at every two strings. -/
theorem split_any (a b : ByteArray) (ev : Value) (w : World) (hma : a.size ≤ 9223372036854775807) (hmb : b.size ≤ 9223372036854775807)
    (hc : w.cell? ⟨2, 0, none⟩ = some ev) (hev : ev = .nilIface ∨ ∃ te pe, ev = .iface te pe) :
    Calls Tryd.prog 4 #[.string a, .string b] w fun e w' => e = .returned (.bool true) ∧ Below w.heap.size w w' := by
  by_cases hlong : 1048576 < a.size + b.size
  · exact split_long a b w hma hmb hlong
  by_cases hhalf : 524288 < a.size ∨ 524288 < b.size
  · exact split_half a b w (by omega) hhalf
  have ha : a.size ≤ 524288 := by omega
  have hb : b.size ≤ 524288 := by omega
  by_cases hpa : 0 < a.size
  · cases had : a.data.toList.all dig
    · exact split_aW a b ev w ha hb had hc hev
    · by_cases h18 : a.size ≤ 18
      · cases hBD : b.data.toList.all dig
        · exact split_DsW a b ev w ha hb hpa had h18 hBD hc hev
        · by_cases hpb : 0 < b.size
          · cases hAB : plen (a.data.toList ++ b.data.toList) with
            | none => exact split_DsN a b ev w ha hb hpa had h18 hpb hBD hAB hc hev
            | some V => exact split_DsS a b ev w ha hb V hpa had h18 hpb hBD hAB hc hev
          · exact split_DsE a b ev w ha hb hpa had h18 (by omega) hc hev
      · cases hBD : b.data.toList.all dig
        · exact split_DbW a b ev w ha hb hpa had (by omega) hBD hc hev
        · by_cases hpb : 0 < b.size
          · cases hAB : plen (a.data.toList ++ b.data.toList) with
            | none => exact split_DbN a b ev w ha hb hpa had (by omega) hpb hBD hAB hc hev
            | some V => exact split_DbS a b ev w ha hb V hpa had (by omega) hpb hBD hAB hc hev
          · exact split_DbE a b ev w ha hb hpa had (by omega) (by omega) hc hev
  · cases hB : plen b.data.toList with
    | none => exact split_EN a b ev w ha hb (by omega) hB hc hev
    | some n => exact split_ES a b ev w ha hb n (by omega) hB hc hev
end Go.Proofs.Qxb6608537aDoor
