/-
  The closure of share.lacking; share.partnerNames.
-/
import Derived.Test.Qxb6609138aPart
import Derived.Deep.QuietTactic
import Derived.BigQuiet
namespace Go.Proofs.Qxb6609138a
open Go.RowKit
open Go.Maps

theorem IsSet.drewN {w : World} {b n : Nat} {L : List ByteArray} (h : IsSet w b n L) (q : Nat) : IsSet (w.drewN q) b n L := h

set_option maxRecDepth 100000 in
set_option maxHeartbeats 400000 in
theorem keep_any (pb bx sb cb n : Nat) (C : List ByteArray) (s : ByteArray) (w : World) (h1 : w.cell? ⟨bx, 0, none⟩ = some (.pointer (some ⟨sb, 0, none⟩))) (h2 : w.cell? ⟨sb, 9, none⟩ = some (.map (some cb)))
    (h3 : w.cell? ⟨pb, 0, none⟩ = some (.string s)) (hs : s.size ≤ maxLen) (hm : IsSet w cb n C) :
    Calls Try.prog 26 #[.pointer (some ⟨pb, 0, none⟩), .pointer (some ⟨bx, 0, none⟩)] w fun e w' => e = .returned (.bool (!isIn C s)) ∧ ∃ q, w' = w.drewN q := by
  have hq := fun q => (hm.drewN q).look s hs
  clear hm hs
  generalize isIn C s = x at hq ⊢
  go_enter Try.func26, Try.ntmps26
  go_wp2
  go_quiet (fail)
  go_wp2
  go_ret
  exact ⟨rfl, _, rfl⟩
end Go.Proofs.Qxb6609138a
