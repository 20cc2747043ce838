/-
  The law FnParseLengthSplitsAtAnyCut: the walk where a has 1 to 18 digits, b is empty.
-/
import Derived.Test.Qxb6608537aDoorSplit0
import Derived.WalkSmall
namespace Go.Proofs.Qxb6608537aDoor
open Go.RowKit
open Plain

set_option maxRecDepth 100000 in
set_option maxHeartbeats 1000000 in
theorem split_DsE (a b : ByteArray) (ev : Value) (w : World) (ha : a.size ≤ 524288) (hb : b.size ≤ 524288) (hpa : 0 < a.size) (had : a.data.toList.all dig = true) (h18 : a.size ≤ 18) (h0 : b.size = 0)
    (hc : w.cell? ⟨2, 0, none⟩ = some ev) (hev : ev = .nilIface ∨ ∃ te pe, ev = .iface te pe) :
    Calls Tryd.prog 4 #[.string a, .string b] w fun e w' => e = .returned (.bool true) ∧ Below w.heap.size w w' := by
  have hae : a.toList.isEmpty = false := isEmpty_pos hpa
  have HAD : Hid (a.data.toList.all dig = true) := had
  clear had
  have hbe : b.toList.isEmpty = true := isEmpty_yes h0
  have hB : b.data.toList = [] := nil_of_size h0
  have hzb : (b.size : Int) ≤ 0 := by omega
  have HB : Hid (b.data.toList = []) := hB
  clear hB h0
  have HC : Hid (w.cell? ⟨2, 0, none⟩ = some ev) := hc
  have HE : Hid (ev = .nilIface ∨ ∃ te pe, ev = .iface te pe) := hev
  clear hc hev
  go_enter Tryd.func4, Tryd.ntmps4
  go_wp2_with fail
  refine (zz8_yes a b _ (by omega)).mono ?_
  rintro e w' ⟨rfl, rfl⟩
  go_wp2_with fail
  refine (zz7_any a ev _ (by omega) HC.out HE.out).mono ?_
  rintro e w1 ⟨va, ea, rfl, ga, hb1⟩
  have HGA : Hid (Got a.data.toList va ea) := ga
  have HC1 : Hid (w1.cell? ⟨2, 0, none⟩ = some ev) := cell_kept HC.out hb1
  clear ga
  go_wp2_with fail
  refine (zz7_any b ev _ (by omega) HC1.out HE.out).mono ?_
  rintro e w2 ⟨vb, eb, rfl, gb, hb2⟩
  have HGB : Hid (Got b.data.toList vb eb) := gb
  have HC2 : Hid (w2.cell? ⟨2, 0, none⟩ = some ev) := cell_kept HC1.out hb2
  clear gb
  go_wp2_with fail
  refine (zz7_any (a ++ b) ev _ (by rw [size_append]; omega) HC2.out HE.out).mono ?_
  rintro e w3 ⟨v, er, rfl, g, hb3⟩
  have HG : Hid (Got (a.data.toList ++ b.data.toList) v er) := by
    show Got (a.data.toList ++ b.data.toList) v er
    rw [← data_append]; exact g
  clear g HC HC1 HC2 HE
  go_wp2_with fail
  refine (zz9_any a _ (by omega)).mono ?_
  rintro e w' ⟨⟨da, rfl, hda⟩, rfl⟩
  have HDA : Hid (da = a.data.toList.all dig) := hda
  clear hda
  go_wp2_with fail
  refine (zz9_any b _ (by omega)).mono ?_
  rintro e w' ⟨⟨db, rfl, hdb⟩, rfl⟩
  have HDB : Hid (db = b.data.toList.all dig) := hdb
  clear hdb
  have hda := HDA.out
  rw [HAD.out] at hda
  subst hda
  clear HDA
  have hdb := HDB.out
  rw [HB.out] at hdb
  have hdb' : db = true := hdb
  subst hdb'
  obtain ⟨rfl, xb, rfl⟩ := got_none HGB.out (by rw [HB.out]; exact plen_nil)
  have HG' : Hid (Got a.data.toList v er) := by
    show Got a.data.toList v er
    have h9 := HG.out
    rw [HB.out, List.append_nil] at h9; exact h9
  clear HGB HG HDB hdb HB
  obtain ⟨rfl, rfl⟩ := got_some HG'.out (plen_mk (ne_of_size hpa) HAD.out (small_le HAD.out h18))
  clear HG'
  obtain ⟨rfl, rfl⟩ := got_some HGA.out (plen_mk (ne_of_size hpa) HAD.out (small_le HAD.out h18))
  clear HGA
  generalize hn : val a.data.toList = n
  have HN : Hid (n = val a.data.toList) := hn.symm
  clear hn
  go_wp2
  go_loop [13, 14] (fun h i => ∃ (k : Nat) (z : Int), k ≤ a.size ∧ i = .int .i64 k ∧ h = .int .i64 z ∧ z = 10 ^ k) (fun _ i => a.size - (intOf i).toNat)
  case atStart => exact ⟨0, 1, Nat.zero_le _, rfl, rfl, rfl⟩
  case round =>
    obtain ⟨k, z, hk, rfl, rfl, hz⟩ := hrel
    have HZ : Hid (z = 10 ^ k) := hz
    by_cases hlt : k < a.size
    · obtain ⟨hz1, hz2⟩ : 0 < z ∧ z ≤ 100000000000000000 := by rw [hz]; exact pow_bd k (by omega)
      clear hz
      go_wp2
      go_round
      case rel => exact ⟨k + 1, z * 10, by omega, by go_num, rfl, by rw [HZ.out, Int.pow_succ]⟩
      case measure => simp [intOf]; omega
    · have hzl : (n : Int) < z := by rw [HN.out]; exact hi_facts a k z (by omega) hz HAD.out
      have hz1 : 0 < z := by omega
      have hz2 : z ≤ 1000000000000000000 := by rw [hz]; exact pow_le18 k (by omega)
      have h48 : (48 : Int) ≤ (a[0].toNat : Int) := by
        have h9 : dig (a.data.toList[0]'(by rw [len_toList]; exact hpa)) = true := List.all_eq_true.1 HAD.out _ (List.getElem_mem _)
        have := (dig_iff.1 h9).1
        show (48 : Int) ≤ ((a.data.toList[0]'(by rw [len_toList]; exact hpa)).toNat : Int)
        omega
      by_cases h49 : (49 : Int) ≤ (a[0].toNat : Int)
      · have hlo : z / 10 ≤ (n : Int) := by rw [HN.out]; exact lo_facts a k z (by omega) hz hpa h49
        clear hz
        go_wp2
        go_quiet (fail)
        go_wp2
        go_quiet (fail)
        go_wp2
        go_ret
        exact ⟨rfl, below_drewN (below_drewN (below3 hb1 hb2 hb3) _) _⟩
      · clear hz
        go_wp2
        go_quiet (fail)
        go_wp2
        go_quiet (fail)
        go_wp2
        go_ret
        exact ⟨rfl, below_drewN (below_drewN (below3 hb1 hb2 hb3) _) _⟩
end Go.Proofs.Qxb6608537aDoor
