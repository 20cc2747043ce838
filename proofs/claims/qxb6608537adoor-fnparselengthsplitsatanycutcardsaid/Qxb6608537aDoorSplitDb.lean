/-
  The law FnParseLengthSplitsAtAnyCut: the walk where a has more than 18 digits.
-/
import Derived.Test.Qxb6608537aDoorSplit0
import Derived.WalkSmall
namespace Go.Proofs.Qxb6608537aDoor
open Go.RowKit
open Plain

set_option maxRecDepth 100000 in
set_option maxHeartbeats 1000000 in
theorem split_DbE (a b : ByteArray) (ev : Value) (w : World) (ha : a.size ≤ 524288) (hb : b.size ≤ 524288) (hpa : 0 < a.size) (had : a.data.toList.all dig = true) (h18 : 18 < a.size) (h0 : b.size = 0)
    (hc : w.cell? ⟨2, 0, none⟩ = some ev) (hev : ev = .nilIface ∨ ∃ te pe, ev = .iface te pe) :
    Calls Tryd.prog 4 #[.string a, .string b] w fun e w' => e = .returned (.bool true) ∧ Below w.heap.size w w' := by
  have hae : a.toList.isEmpty = false := isEmpty_pos hpa
  have HAD : Hid (a.data.toList.all dig = true) := had
  clear had
  have hbe : b.toList.isEmpty = true := isEmpty_yes h0
  have hB : b.data.toList = [] := nil_of_size h0
  have hzb : (b.size : Int) ≤ 0 := by omega
  have HB : Hid (b.data.toList = []) := hB
  clear hB h0
  have HC : Hid (w.cell? ⟨2, 0, none⟩ = some ev) := hc
  have HE : Hid (ev = .nilIface ∨ ∃ te pe, ev = .iface te pe) := hev
  clear hc hev
  go_enter Tryd.func4, Tryd.ntmps4
  go_wp2_with fail
  refine (zz8_yes a b _ (by omega)).mono ?_
  rintro e w' ⟨rfl, rfl⟩
  go_wp2_with fail
  refine (zz7_any a ev _ (by omega) HC.out HE.out).mono ?_
  rintro e w1 ⟨va, ea, rfl, ga, hb1⟩
  have HGA : Hid (Got a.data.toList va ea) := ga
  have HC1 : Hid (w1.cell? ⟨2, 0, none⟩ = some ev) := cell_kept HC.out hb1
  clear ga
  go_wp2_with fail
  refine (zz7_any b ev _ (by omega) HC1.out HE.out).mono ?_
  rintro e w2 ⟨vb, eb, rfl, gb, hb2⟩
  have HGB : Hid (Got b.data.toList vb eb) := gb
  have HC2 : Hid (w2.cell? ⟨2, 0, none⟩ = some ev) := cell_kept HC1.out hb2
  clear gb
  go_wp2_with fail
  refine (zz7_any (a ++ b) ev _ (by rw [size_append]; omega) HC2.out HE.out).mono ?_
  rintro e w3 ⟨v, er, rfl, g, hb3⟩
  have HG : Hid (Got (a.data.toList ++ b.data.toList) v er) := by
    show Got (a.data.toList ++ b.data.toList) v er
    rw [← data_append]; exact g
  clear g HC HC1 HC2 HE
  go_wp2_with fail
  refine (zz9_any a _ (by omega)).mono ?_
  rintro e w' ⟨⟨da, rfl, hda⟩, rfl⟩
  have HDA : Hid (da = a.data.toList.all dig) := hda
  clear hda
  go_wp2_with fail
  refine (zz9_any b _ (by omega)).mono ?_
  rintro e w' ⟨⟨db, rfl, hdb⟩, rfl⟩
  have HDB : Hid (db = b.data.toList.all dig) := hdb
  clear hdb
  have hda := HDA.out
  rw [HAD.out] at hda
  subst hda
  clear HDA
  have hdb := HDB.out
  rw [HB.out] at hdb
  have hdb' : db = true := hdb
  subst hdb'
  obtain ⟨rfl, xb, rfl⟩ := got_none HGB.out (by rw [HB.out]; exact plen_nil)
  have HG' : Hid (Got a.data.toList v er) := by
    show Got a.data.toList v er
    have h9 := HG.out
    rw [HB.out, List.append_nil] at h9; exact h9
  clear HGB HG HDB hdb HB
  rcases hpA : plen a.data.toList with _ | n
  · obtain ⟨rfl, xa, rfl⟩ := got_none HGA.out hpA
    obtain ⟨rfl, x, rfl⟩ := got_none HG'.out hpA
    clear HG' HGA hpA
    go_wp2
    go_quiet (fail)
    go_wp2
    go_quiet (fail)
    go_wp2
    go_ret
    exact ⟨rfl, below_drewN (below_drewN (below3 hb1 hb2 hb3) _) _⟩
  · obtain ⟨rfl, rfl⟩ := got_some HGA.out hpA
    obtain ⟨rfl, rfl⟩ := got_some HG'.out hpA
    clear HG' HGA hpA
    go_wp2
    go_quiet (fail)
    go_wp2
    go_quiet (fail)
    go_wp2
    go_ret
    exact ⟨rfl, below_drewN (below_drewN (below3 hb1 hb2 hb3) _) _⟩

set_option maxRecDepth 100000 in
set_option maxHeartbeats 1000000 in
theorem split_DbW (a b : ByteArray) (ev : Value) (w : World) (ha : a.size ≤ 524288) (hb : b.size ≤ 524288) (hpa : 0 < a.size) (had : a.data.toList.all dig = true) (h18 : 18 < a.size) (hBD : b.data.toList.all dig = false)
    (hc : w.cell? ⟨2, 0, none⟩ = some ev) (hev : ev = .nilIface ∨ ∃ te pe, ev = .iface te pe) :
    Calls Tryd.prog 4 #[.string a, .string b] w fun e w' => e = .returned (.bool true) ∧ Below w.heap.size w w' := by
  have hae : a.toList.isEmpty = false := isEmpty_pos hpa
  have HAD : Hid (a.data.toList.all dig = true) := had
  clear had
  have HBD : Hid (b.data.toList.all dig = false) := hBD
  clear hBD
  have HC : Hid (w.cell? ⟨2, 0, none⟩ = some ev) := hc
  have HE : Hid (ev = .nilIface ∨ ∃ te pe, ev = .iface te pe) := hev
  clear hc hev
  go_enter Tryd.func4, Tryd.ntmps4
  go_wp2_with fail
  refine (zz8_yes a b _ (by omega)).mono ?_
  rintro e w' ⟨rfl, rfl⟩
  go_wp2_with fail
  refine (zz7_any a ev _ (by omega) HC.out HE.out).mono ?_
  rintro e w1 ⟨va, ea, rfl, ga, hb1⟩
  have HGA : Hid (Got a.data.toList va ea) := ga
  have HC1 : Hid (w1.cell? ⟨2, 0, none⟩ = some ev) := cell_kept HC.out hb1
  clear ga
  go_wp2_with fail
  refine (zz7_any b ev _ (by omega) HC1.out HE.out).mono ?_
  rintro e w2 ⟨vb, eb, rfl, gb, hb2⟩
  have HGB : Hid (Got b.data.toList vb eb) := gb
  have HC2 : Hid (w2.cell? ⟨2, 0, none⟩ = some ev) := cell_kept HC1.out hb2
  clear gb
  go_wp2_with fail
  refine (zz7_any (a ++ b) ev _ (by rw [size_append]; omega) HC2.out HE.out).mono ?_
  rintro e w3 ⟨v, er, rfl, g, hb3⟩
  have HG : Hid (Got (a.data.toList ++ b.data.toList) v er) := by
    show Got (a.data.toList ++ b.data.toList) v er
    rw [← data_append]; exact g
  clear g HC HC1 HC2 HE
  go_wp2_with fail
  refine (zz9_any a _ (by omega)).mono ?_
  rintro e w' ⟨⟨da, rfl, hda⟩, rfl⟩
  have HDA : Hid (da = a.data.toList.all dig) := hda
  clear hda
  go_wp2_with fail
  refine (zz9_any b _ (by omega)).mono ?_
  rintro e w' ⟨⟨db, rfl, hdb⟩, rfl⟩
  have HDB : Hid (db = b.data.toList.all dig) := hdb
  clear hdb
  have hda := HDA.out
  rw [HAD.out] at hda
  subst hda
  clear HDA
  have hpb : 0 < b.size := by
    rcases Nat.eq_zero_or_pos b.size with h0 | h0
    · have h1 := HBD.out
      rw [nil_of_size h0] at h1; cases h1
    · exact h0
  have hbe : b.toList.isEmpty = false := isEmpty_pos hpb
  have hdb := HDB.out
  rw [HBD.out] at hdb
  subst hdb
  obtain ⟨rfl, xb, rfl⟩ := got_none HGB.out (plen_nondig HBD.out)
  obtain ⟨rfl, x, rfl⟩ := got_none HG.out (plen_app_r HBD.out)
  clear HGB HG HDB HBD
  clear HGA
  go_wp2
  go_quiet (fail)
  go_wp2
  go_quiet (fail)
  go_wp2
  go_ret
  exact ⟨rfl, below_drewN (below_drewN (below3 hb1 hb2 hb3) _) _⟩

set_option maxRecDepth 100000 in
set_option maxHeartbeats 1000000 in
theorem split_DbN (a b : ByteArray) (ev : Value) (w : World) (ha : a.size ≤ 524288) (hb : b.size ≤ 524288) (hpa : 0 < a.size) (had : a.data.toList.all dig = true) (h18 : 18 < a.size) (hpb : 0 < b.size) (hBD : b.data.toList.all dig = true) (hAB : plen (a.data.toList ++ b.data.toList) = none)
    (hc : w.cell? ⟨2, 0, none⟩ = some ev) (hev : ev = .nilIface ∨ ∃ te pe, ev = .iface te pe) :
    Calls Tryd.prog 4 #[.string a, .string b] w fun e w' => e = .returned (.bool true) ∧ Below w.heap.size w w' := by
  have hae : a.toList.isEmpty = false := isEmpty_pos hpa
  have HAD : Hid (a.data.toList.all dig = true) := had
  clear had
  have hbe : b.toList.isEmpty = false := isEmpty_pos hpb
  have HBD : Hid (b.data.toList.all dig = true) := hBD
  clear hBD
  have HAB : Hid (plen (a.data.toList ++ b.data.toList) = none) := hAB
  clear hAB
  have HC : Hid (w.cell? ⟨2, 0, none⟩ = some ev) := hc
  have HE : Hid (ev = .nilIface ∨ ∃ te pe, ev = .iface te pe) := hev
  clear hc hev
  go_enter Tryd.func4, Tryd.ntmps4
  go_wp2_with fail
  refine (zz8_yes a b _ (by omega)).mono ?_
  rintro e w' ⟨rfl, rfl⟩
  go_wp2_with fail
  refine (zz7_any a ev _ (by omega) HC.out HE.out).mono ?_
  rintro e w1 ⟨va, ea, rfl, ga, hb1⟩
  have HGA : Hid (Got a.data.toList va ea) := ga
  have HC1 : Hid (w1.cell? ⟨2, 0, none⟩ = some ev) := cell_kept HC.out hb1
  clear ga
  go_wp2_with fail
  refine (zz7_any b ev _ (by omega) HC1.out HE.out).mono ?_
  rintro e w2 ⟨vb, eb, rfl, gb, hb2⟩
  have HGB : Hid (Got b.data.toList vb eb) := gb
  have HC2 : Hid (w2.cell? ⟨2, 0, none⟩ = some ev) := cell_kept HC1.out hb2
  clear gb
  go_wp2_with fail
  refine (zz7_any (a ++ b) ev _ (by rw [size_append]; omega) HC2.out HE.out).mono ?_
  rintro e w3 ⟨v, er, rfl, g, hb3⟩
  have HG : Hid (Got (a.data.toList ++ b.data.toList) v er) := by
    show Got (a.data.toList ++ b.data.toList) v er
    rw [← data_append]; exact g
  clear g HC HC1 HC2 HE
  go_wp2_with fail
  refine (zz9_any a _ (by omega)).mono ?_
  rintro e w' ⟨⟨da, rfl, hda⟩, rfl⟩
  have HDA : Hid (da = a.data.toList.all dig) := hda
  clear hda
  go_wp2_with fail
  refine (zz9_any b _ (by omega)).mono ?_
  rintro e w' ⟨⟨db, rfl, hdb⟩, rfl⟩
  have HDB : Hid (db = b.data.toList.all dig) := hdb
  clear hdb
  have hda := HDA.out
  rw [HAD.out] at hda
  subst hda
  clear HDA
  have hdb := HDB.out
  rw [HBD.out] at hdb
  subst hdb
  clear HDB
  obtain ⟨rfl, x, rfl⟩ := got_none HG.out HAB.out
  clear HG HAB HGB HGA HBD
  go_wp2
  go_quiet (fail)
  go_wp2
  go_quiet (fail)
  go_wp2
  go_ret
  exact ⟨rfl, below_drewN (below_drewN (below3 hb1 hb2 hb3) _) _⟩
end Go.Proofs.Qxb6608537aDoor
