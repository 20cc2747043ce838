/-
  The law FnParseLengthSplitsAtAnyCut: the walk where a has more than 18 digits, b digits, and both together are in range.
-/
import Derived.Test.Qxb6608537aDoorSplit0
import Derived.WalkSmall
namespace Go.Proofs.Qxb6608537aDoor
open Go.RowKit
open Plain

set_option maxRecDepth 100000 in
set_option maxHeartbeats 1000000 in
theorem split_DbS (a b : ByteArray) (ev : Value) (w : World) (ha : a.size ≤ 524288) (hb : b.size ≤ 524288) (V : Nat) (hpa : 0 < a.size) (had : a.data.toList.all dig = true) (h18 : 18 < a.size) (hpb : 0 < b.size) (hBD : b.data.toList.all dig = true) (hAB : plen (a.data.toList ++ b.data.toList) = some V)
    (hc : w.cell? ⟨2, 0, none⟩ = some ev) (hev : ev = .nilIface ∨ ∃ te pe, ev = .iface te pe) :
    Calls Tryd.prog 4 #[.string a, .string b] w fun e w' => e = .returned (.bool true) ∧ Below w.heap.size w w' := by
  have hae : a.toList.isEmpty = false := isEmpty_pos hpa
  have HAD : Hid (a.data.toList.all dig = true) := had
  clear had
  have hbe : b.toList.isEmpty = false := isEmpty_pos hpb
  have HBD : Hid (b.data.toList.all dig = true) := hBD
  clear hBD
  have HAB : Hid (plen (a.data.toList ++ b.data.toList) = some V) := hAB
  clear hAB
  have HC : Hid (w.cell? ⟨2, 0, none⟩ = some ev) := hc
  have HE : Hid (ev = .nilIface ∨ ∃ te pe, ev = .iface te pe) := hev
  clear hc hev
  go_enter Tryd.func4, Tryd.ntmps4
  go_wp2_with fail
  refine (zz8_yes a b _ (by omega)).mono ?_
  rintro e w' ⟨rfl, rfl⟩
  go_wp2_with fail
  refine (zz7_any a ev _ (by omega) HC.out HE.out).mono ?_
  rintro e w1 ⟨va, ea, rfl, ga, hb1⟩
  have HGA : Hid (Got a.data.toList va ea) := ga
  have HC1 : Hid (w1.cell? ⟨2, 0, none⟩ = some ev) := cell_kept HC.out hb1
  clear ga
  go_wp2_with fail
  refine (zz7_any b ev _ (by omega) HC1.out HE.out).mono ?_
  rintro e w2 ⟨vb, eb, rfl, gb, hb2⟩
  have HGB : Hid (Got b.data.toList vb eb) := gb
  have HC2 : Hid (w2.cell? ⟨2, 0, none⟩ = some ev) := cell_kept HC1.out hb2
  clear gb
  go_wp2_with fail
  refine (zz7_any (a ++ b) ev _ (by rw [size_append]; omega) HC2.out HE.out).mono ?_
  rintro e w3 ⟨v, er, rfl, g, hb3⟩
  have HG : Hid (Got (a.data.toList ++ b.data.toList) v er) := by
    show Got (a.data.toList ++ b.data.toList) v er
    rw [← data_append]; exact g
  clear g HC HC1 HC2 HE
  go_wp2_with fail
  refine (zz9_any a _ (by omega)).mono ?_
  rintro e w' ⟨⟨da, rfl, hda⟩, rfl⟩
  have HDA : Hid (da = a.data.toList.all dig) := hda
  clear hda
  go_wp2_with fail
  refine (zz9_any b _ (by omega)).mono ?_
  rintro e w' ⟨⟨db, rfl, hdb⟩, rfl⟩
  have HDB : Hid (db = b.data.toList.all dig) := hdb
  clear hdb
  have hda := HDA.out
  rw [HAD.out] at hda
  subst hda
  clear HDA
  have hdb := HDB.out
  rw [HBD.out] at hdb
  subst hdb
  clear HDB
  obtain ⟨hpA, hpB, hVe, hVl⟩ := plen_app_some HAB.out (ne_of_size hpa) (ne_of_size hpb)
  obtain ⟨rfl, rfl⟩ := got_some HG.out HAB.out
  obtain ⟨rfl, rfl⟩ := got_some HGB.out hpB
  obtain ⟨rfl, rfl⟩ := got_some HGA.out hpA
  rw [len_toList] at hVe
  clear HG HGA HGB hpA hpB HAB
  generalize hn : val a.data.toList = n at hVe ⊢
  have HN : Hid (n = val a.data.toList) := hn.symm
  clear hn
  generalize hm : val b.data.toList = m at hVe ⊢
  have HV : Hid (V = n * 10 ^ b.size + m) := hVe
  have HVL : Hid (V ≤ 9223372036854775807) := hVl
  clear hm hVe hVl HBD
  go_wp2
  go_loop [15, 16] (fun h i => ∃ (k : Nat) (y : Int), k ≤ b.size ∧ i = .int .i64 k ∧ h = .int .i64 y ∧ y = wrap64 (10 ^ k)) (fun _ i => b.size - (intOf i).toNat)
  case atStart => exact ⟨0, 1, Nat.zero_le _, rfl, rfl, wrap_one⟩
  case round =>
    obtain ⟨k, y, hk, rfl, rfl, hy⟩ := hrel
    have HY : Hid (y = wrap64 (10 ^ k)) := hy
    clear hy
    by_cases hlt : k < b.size
    · go_wp2
      go_round
      case rel => exact ⟨k + 1, wrap64 (y * 10), by omega, by go_num, by first | rfl | go_num, by rw [HY.out, wrap_mul10, Int.pow_succ]⟩
      case measure => simp [intOf]; omega
    · have hfin : wrap64 (wrap64 ((n : Int) * y) + (m : Int)) = (V : Int) := pw_final n m V k y HY.out (by rw [show k = b.size from by omega]; exact HV.out) HVL.out
      clear HY
      go_wp2
      go_quiet (fail)
      go_wp2
      go_quiet (fail)
      go_wp2
      go_ret
      exact ⟨rfl, below_drewN (below_drewN (below3 hb1 hb2 hb3) _) _⟩
end Go.Proofs.Qxb6608537aDoor
