/-
  The law FnParseLengthSplitsAtAnyCut: the walk where a bears a byte that is no digit.
-/
import Derived.Test.Qxb6608537aDoorSplit0
import Derived.WalkSmall
namespace Go.Proofs.Qxb6608537aDoor
open Go.RowKit
open Plain

set_option maxRecDepth 100000 in
set_option maxHeartbeats 1000000 in
theorem split_aW (a b : ByteArray) (ev : Value) (w : World) (ha : a.size ≤ 524288) (hb : b.size ≤ 524288) (hA : a.data.toList.all dig = false)
    (hc : w.cell? ⟨2, 0, none⟩ = some ev) (hev : ev = .nilIface ∨ ∃ te pe, ev = .iface te pe) :
    Calls Tryd.prog 4 #[.string a, .string b] w fun e w' => e = .returned (.bool true) ∧ Below w.heap.size w w' := by
  have HA : Hid (a.data.toList.all dig = false) := hA
  have HC : Hid (w.cell? ⟨2, 0, none⟩ = some ev) := hc
  have HE : Hid (ev = .nilIface ∨ ∃ te pe, ev = .iface te pe) := hev
  clear hA hc hev
  go_enter Tryd.func4, Tryd.ntmps4
  go_wp2_with fail
  refine (zz8_yes a b _ (by omega)).mono ?_
  rintro e w' ⟨rfl, rfl⟩
  go_wp2_with fail
  refine (zz7_any a ev _ (by omega) HC.out HE.out).mono ?_
  rintro e w1 ⟨va, ea, rfl, ga, hb1⟩
  have HGA : Hid (Got a.data.toList va ea) := ga
  have HC1 : Hid (w1.cell? ⟨2, 0, none⟩ = some ev) := cell_kept HC.out hb1
  clear ga
  go_wp2_with fail
  refine (zz7_any b ev _ (by omega) HC1.out HE.out).mono ?_
  rintro e w2 ⟨vb, eb, rfl, gb, hb2⟩
  have HGB : Hid (Got b.data.toList vb eb) := gb
  have HC2 : Hid (w2.cell? ⟨2, 0, none⟩ = some ev) := cell_kept HC1.out hb2
  clear gb
  go_wp2_with fail
  refine (zz7_any (a ++ b) ev _ (by rw [size_append]; omega) HC2.out HE.out).mono ?_
  rintro e w3 ⟨v, er, rfl, g, hb3⟩
  obtain ⟨rfl, xa, rfl⟩ := got_none HGA.out (plen_nondig HA.out)
  obtain ⟨rfl, x, rfl⟩ := got_none g (by rw [data_append]; exact plen_app_l HA.out)
  clear g HGA HC HC1 HC2 HE
  go_wp2_with fail
  refine (zz9_any a _ (by omega)).mono ?_
  rintro e w' ⟨⟨da, rfl, hda⟩, rfl⟩
  rw [HA.out] at hda
  subst hda
  go_wp2_with fail
  refine (zz9_any b _ (by omega)).mono ?_
  rintro e w' ⟨⟨db, rfl, hdb⟩, rfl⟩
  have HDB : Hid (db = b.data.toList.all dig) := hdb
  have hpa : 0 < a.size := by
    rcases Nat.eq_zero_or_pos a.size with h0 | h0
    · have h1 := HA.out
      rw [nil_of_size h0] at h1; cases h1
    · exact h0
  have hae : a.toList.isEmpty = false := isEmpty_pos hpa
  clear hdb HA
  by_cases hpb : 0 < b.size
  · have hbe : b.toList.isEmpty = false := isEmpty_pos hpb
    cases db
    · obtain ⟨rfl, xb, rfl⟩ := got_none HGB.out (plen_nondig HDB.out.symm)
      clear HGB HDB
      go_wp2
      go_quiet (fail)
      go_wp2
      go_quiet (fail)
      go_wp2
      go_ret
      exact ⟨rfl, below_drewN (below_drewN (below3 hb1 hb2 hb3) _) _⟩
    · clear HGB HDB
      go_wp2
      go_quiet (fail)
      go_wp2
      go_quiet (fail)
      go_wp2
      go_ret
      exact ⟨rfl, below_drewN (below_drewN (below3 hb1 hb2 hb3) _) _⟩
  · have hbe : b.toList.isEmpty = true := isEmpty_yes (by omega)
    have hB := nil_of_size (s := b) (by omega)
    obtain ⟨rfl, xb, rfl⟩ := got_none HGB.out (by rw [hB]; exact plen_nil)
    have hdb := HDB.out
    rw [hB] at hdb
    have hdb' : db = true := hdb
    subst hdb'
    clear HGB HDB hB hdb
    go_wp2
    go_quiet (fail)
    go_wp2
    go_quiet (fail)
    go_wp2
    go_ret
    exact ⟨rfl, below_drewN (below_drewN (below3 hb1 hb2 hb3) _) _⟩
end Go.Proofs.Qxb6608537aDoor
