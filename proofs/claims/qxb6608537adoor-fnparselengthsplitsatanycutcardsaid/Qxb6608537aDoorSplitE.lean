/-
  The law FnParseLengthSplitsAtAnyCut: the walk where a is empty.
-/
import Derived.Test.Qxb6608537aDoorSplit0
import Derived.WalkSmall
namespace Go.Proofs.Qxb6608537aDoor
open Go.RowKit
open Plain

set_option maxRecDepth 100000 in
set_option maxHeartbeats 1000000 in
theorem split_EN (a b : ByteArray) (ev : Value) (w : World) (ha : a.size ≤ 524288) (hb : b.size ≤ 524288) (h0 : a.size = 0) (hB : plen b.data.toList = none)
    (hc : w.cell? ⟨2, 0, none⟩ = some ev) (hev : ev = .nilIface ∨ ∃ te pe, ev = .iface te pe) :
    Calls Tryd.prog 4 #[.string a, .string b] w fun e w' => e = .returned (.bool true) ∧ Below w.heap.size w w' := by
  have hA : a.data.toList = [] := nil_of_size h0
  have hae : a.toList.isEmpty = true := isEmpty_yes h0
  have HA : Hid (a.data.toList = []) := hA
  have hz : (a.size : Int) ≤ 0 := by omega
  clear hA h0
  have HB : Hid (plen b.data.toList = none) := hB
  clear hB
  have HC : Hid (w.cell? ⟨2, 0, none⟩ = some ev) := hc
  have HE : Hid (ev = .nilIface ∨ ∃ te pe, ev = .iface te pe) := hev
  clear hc hev
  go_enter Tryd.func4, Tryd.ntmps4
  go_wp2_with fail
  refine (zz8_yes a b _ (by omega)).mono ?_
  rintro e w' ⟨rfl, rfl⟩
  go_wp2_with fail
  refine (zz7_any a ev _ (by omega) HC.out HE.out).mono ?_
  rintro e w1 ⟨va, ea, rfl, ga, hb1⟩
  have HGA : Hid (Got a.data.toList va ea) := ga
  have HC1 : Hid (w1.cell? ⟨2, 0, none⟩ = some ev) := cell_kept HC.out hb1
  clear ga
  go_wp2_with fail
  refine (zz7_any b ev _ (by omega) HC1.out HE.out).mono ?_
  rintro e w2 ⟨vb, eb, rfl, gb, hb2⟩
  have HGB : Hid (Got b.data.toList vb eb) := gb
  have HC2 : Hid (w2.cell? ⟨2, 0, none⟩ = some ev) := cell_kept HC1.out hb2
  clear gb
  go_wp2_with fail
  refine (zz7_any (a ++ b) ev _ (by rw [size_append]; omega) HC2.out HE.out).mono ?_
  rintro e w3 ⟨v, er, rfl, g, hb3⟩
  have HG : Hid (Got (a.data.toList ++ b.data.toList) v er) := by
    show Got (a.data.toList ++ b.data.toList) v er
    rw [← data_append]; exact g
  clear g HC HC1 HC2 HE
  go_wp2_with fail
  refine (zz9_any a _ (by omega)).mono ?_
  rintro e w' ⟨⟨da, rfl, hda⟩, rfl⟩
  have HDA : Hid (da = a.data.toList.all dig) := hda
  clear hda
  go_wp2_with fail
  refine (zz9_any b _ (by omega)).mono ?_
  rintro e w' ⟨⟨db, rfl, hdb⟩, rfl⟩
  have HDB : Hid (db = b.data.toList.all dig) := hdb
  clear hdb
  obtain ⟨rfl, xa, rfl⟩ := got_none HGA.out (by rw [HA.out]; exact plen_nil)
  have hda := HDA.out
  rw [HA.out] at hda
  have hda' : da = true := hda
  subst hda'
  have HG' : Hid (Got b.data.toList v er) := by
    show Got b.data.toList v er
    have h9 := HG.out
    rw [HA.out] at h9; exact h9
  clear HGA HDA hda HG HA
  obtain ⟨rfl, xb, rfl⟩ := got_none HGB.out HB.out
  obtain ⟨rfl, x, rfl⟩ := got_none HG'.out HB.out
  clear HGB HG'
  by_cases hpb : 0 < b.size
  · have hbe : b.toList.isEmpty = false := isEmpty_pos hpb
    cases db
    · clear HDB HB
      go_wp2
      go_quiet (fail)
      go_wp2
      go_quiet (fail)
      go_wp2
      go_ret
      exact ⟨rfl, below_drewN (below_drewN (below3 hb1 hb2 hb3) _) _⟩
    · have hbig : 18 < b.size := by
        have h1 := HDB.out.symm
        by_cases h2 : 18 < b.size
        · exact h2
        · exfalso
          have h3 := HB.out
          rw [plen_mk (ne_of_size hpb) h1 (small_le h1 (by omega))] at h3
          cases h3
      clear HDB HB
      go_wp2
      go_quiet (fail)
      go_wp2
      go_quiet (fail)
      go_wp2
      go_ret
      exact ⟨rfl, below_drewN (below_drewN (below3 hb1 hb2 hb3) _) _⟩
  · have hbe : b.toList.isEmpty = true := isEmpty_yes (by omega)
    have hdb := HDB.out
    rw [nil_of_size (s := b) (by omega)] at hdb
    have hdb' : db = true := hdb
    subst hdb'
    have hzb : (b.size : Int) ≤ 0 := by omega
    clear HDB HB hdb hpb
    go_wp2
    go_quiet (fail)
    go_wp2
    go_quiet (fail)
    go_wp2
    go_ret
    exact ⟨rfl, below_drewN (below_drewN (below3 hb1 hb2 hb3) _) _⟩

set_option maxRecDepth 100000 in
set_option maxHeartbeats 1000000 in
theorem split_ES (a b : ByteArray) (ev : Value) (w : World) (ha : a.size ≤ 524288) (hb : b.size ≤ 524288) (n : Nat) (h0 : a.size = 0) (hB : plen b.data.toList = some n)
    (hc : w.cell? ⟨2, 0, none⟩ = some ev) (hev : ev = .nilIface ∨ ∃ te pe, ev = .iface te pe) :
    Calls Tryd.prog 4 #[.string a, .string b] w fun e w' => e = .returned (.bool true) ∧ Below w.heap.size w w' := by
  have hA : a.data.toList = [] := nil_of_size h0
  have hae : a.toList.isEmpty = true := isEmpty_yes h0
  have HA : Hid (a.data.toList = []) := hA
  have hz : (a.size : Int) ≤ 0 := by omega
  clear hA h0
  have HB : Hid (plen b.data.toList = some n) := hB
  clear hB
  have HC : Hid (w.cell? ⟨2, 0, none⟩ = some ev) := hc
  have HE : Hid (ev = .nilIface ∨ ∃ te pe, ev = .iface te pe) := hev
  clear hc hev
  go_enter Tryd.func4, Tryd.ntmps4
  go_wp2_with fail
  refine (zz8_yes a b _ (by omega)).mono ?_
  rintro e w' ⟨rfl, rfl⟩
  go_wp2_with fail
  refine (zz7_any a ev _ (by omega) HC.out HE.out).mono ?_
  rintro e w1 ⟨va, ea, rfl, ga, hb1⟩
  have HGA : Hid (Got a.data.toList va ea) := ga
  have HC1 : Hid (w1.cell? ⟨2, 0, none⟩ = some ev) := cell_kept HC.out hb1
  clear ga
  go_wp2_with fail
  refine (zz7_any b ev _ (by omega) HC1.out HE.out).mono ?_
  rintro e w2 ⟨vb, eb, rfl, gb, hb2⟩
  have HGB : Hid (Got b.data.toList vb eb) := gb
  have HC2 : Hid (w2.cell? ⟨2, 0, none⟩ = some ev) := cell_kept HC1.out hb2
  clear gb
  go_wp2_with fail
  refine (zz7_any (a ++ b) ev _ (by rw [size_append]; omega) HC2.out HE.out).mono ?_
  rintro e w3 ⟨v, er, rfl, g, hb3⟩
  have HG : Hid (Got (a.data.toList ++ b.data.toList) v er) := by
    show Got (a.data.toList ++ b.data.toList) v er
    rw [← data_append]; exact g
  clear g HC HC1 HC2 HE
  go_wp2_with fail
  refine (zz9_any a _ (by omega)).mono ?_
  rintro e w' ⟨⟨da, rfl, hda⟩, rfl⟩
  have HDA : Hid (da = a.data.toList.all dig) := hda
  clear hda
  go_wp2_with fail
  refine (zz9_any b _ (by omega)).mono ?_
  rintro e w' ⟨⟨db, rfl, hdb⟩, rfl⟩
  have HDB : Hid (db = b.data.toList.all dig) := hdb
  clear hdb
  obtain ⟨rfl, xa, rfl⟩ := got_none HGA.out (by rw [HA.out]; exact plen_nil)
  have hda := HDA.out
  rw [HA.out] at hda
  have hda' : da = true := hda
  subst hda'
  have HG' : Hid (Got b.data.toList v er) := by
    show Got b.data.toList v er
    have h9 := HG.out
    rw [HA.out] at h9; exact h9
  clear HGA HDA hda HG HA
  obtain ⟨rfl, rfl⟩ := got_some HGB.out HB.out
  obtain ⟨rfl, rfl⟩ := got_some HG'.out HB.out
  obtain ⟨hne, had, -, -⟩ := plen_some HB.out
  have hpb : 0 < b.size := size_pos hne
  have hbe : b.toList.isEmpty = false := isEmpty_pos hpb
  have hdb := HDB.out
  rw [had] at hdb
  subst hdb
  clear HGB HG' HDB HB hne had
  by_cases h18 : b.size ≤ 18
  · go_wp2
    go_quiet (fail)
    go_wp2
    go_quiet (fail)
    go_wp2
    go_ret
    exact ⟨rfl, below_drewN (below_drewN (below3 hb1 hb2 hb3) _) _⟩
  · go_wp2
    go_quiet (fail)
    go_wp2
    go_quiet (fail)
    go_wp2
    go_ret
    exact ⟨rfl, below_drewN (below_drewN (below3 hb1 hb2 hb3) _) _⟩
end Go.Proofs.Qxb6608537aDoor
