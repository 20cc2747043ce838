/-
  The walks that both laws of this seat share: isDigit, badRequest, parseLength, ZZparseLength, zzAllDigits, the two tests on lengths.
-/
import Derived.Test.Qxb6608537aDoorMath
import Derived.Test.Qxb6608537aDoorShelf
import Derived.Lib.AtoiErrMem
import Derived.WalkKit
import Derived.BigCall
import Derived.Below
namespace Go.Proofs.Qxb6608537aDoor
open Go.RowKit
open Plain

set_option maxHeartbeats 400000 in
theorem isDigit_yes (c : UInt8) (w : World) (h : dig c = true) :
    Calls Tryd.prog 23 #[.int .u8 c.toNat] w fun e w' => e = .returned (.bool true) ∧ w' = w := by
  have h2 := dig_iff.1 h
  have h3 : (48 : Int) ≤ (c.toNat : Int) := by omega
  have h4 : (c.toNat : Int) ≤ 57 := by omega
  clear h
  go_enter Tryd.func23, Tryd.ntmps23
  go_wp2
  go_ret
  exact ⟨rfl, rfl⟩

set_option maxHeartbeats 400000 in
theorem isDigit_no (c : UInt8) (w : World) (h : dig c = false) :
    Calls Tryd.prog 23 #[.int .u8 c.toNat] w fun e w' => e = .returned (.bool false) ∧ w' = w := by
  have h2 : ¬ (48 ≤ c.toNat ∧ c.toNat ≤ 57) := fun h2 => by rw [dig_iff.2 h2] at h; cases h
  clear h
  by_cases h3 : (48 : Int) ≤ (c.toNat : Int)
  · have h4 : ¬ (c.toNat : Int) ≤ 57 := by omega
    clear h2
    go_enter Tryd.func23, Tryd.ntmps23
    go_wp2
    go_ret
    exact ⟨rfl, rfl⟩
  · clear h2
    go_enter Tryd.func23, Tryd.ntmps23
    go_wp2
    go_ret
    exact ⟨rfl, rfl⟩

theorem isDigit_any (c : UInt8) (w : World) :
    Calls Tryd.prog 23 #[.int .u8 c.toNat] w fun e w' => e = .returned (.bool (dig c)) ∧ w' = w := by
  cases h : dig c
  · exact isDigit_no c w h
  · exact isDigit_yes c w h

set_option maxHeartbeats 400000 in
theorem badRequest_any (s : ByteArray) (w : World) :
    Calls Tryd.prog 24 #[.string s] w fun e w' => e = .returned (.iface 62 (.pointer (some ⟨w.heap.size, 0, none⟩))) ∧ Below w.heap.size w w' := by
  go_enter Tryd.func24, Tryd.ntmps24
  go_wp2
  go_ret
  exact ⟨rfl, (Below.refl _ _).alloc (Nat.le_refl _) _⟩

theorem getElem_toList (s : ByteArray) (k : Nat) (h : k < s.size) : s.data.toList[k]'(by simpa using h) = s[k] := rfl

theorem isEmpty_no {s : ByteArray} (h : s.data.toList ≠ []) : s.toList.isEmpty = false := by
  rw [ByteArray.toList_eq]
  cases hl : s.data.toList with
  | nil => exact absurd hl h
  | cons _ _ => rfl

set_option maxHeartbeats 400000 in
/-- parseLength at a numeral that an int64 holds. -/
theorem parseLength_some (s : ByteArray) (w : World) (hs : s.size ≤ 1048576) (v : Nat) (h : plen s.data.toList = some v) :
    Calls Tryd.prog 17 #[.string s] w fun e w' => e = .returned (.tuple #[.int .i64 v, .nilIface]) ∧ Below w.heap.size w w' := by
  obtain ⟨hne, had, hv, rfl⟩ := plen_some h
  clear h
  have HP : Hid (Lib.parseIntB 64 s.data.toList = .ok (val s.data.toList : Int)) := by
    show Lib.parseIntB 64 s.data.toList = .ok (val s.data.toList : Int)
    rw [parse_digits _ hne had, if_pos hv]
  have hb : s.toList.isEmpty = false := isEmpty_no hne
  have had' : Hid (s.data.toList.all dig = true) := had
  clear hv had hne
  go_enter Tryd.func17, Tryd.ntmps17
  go_wp2
  go_loop [4, 5] (fun n i => ∃ k : Nat, k ≤ s.size ∧ i = .int .i64 k ∧ n = .bool false) (fun _ i => s.size - (intOf i).toNat)
  case atStart => exact ⟨0, Nat.zero_le _, rfl, rfl⟩
  case round =>
    obtain ⟨k, hk, rfl, rfl⟩ := hrel
    by_cases hlt : k < s.size
    · have hd : dig s[k] = true := by
        have := List.all_eq_true.1 had'.out s[k] (by rw [← getElem_toList s k hlt]; exact List.getElem_mem _)
        exact this
      go_wp2_with (go_at_call 23; refine (isDigit_yes _ _ hd).mono ?_; rintro e w' ⟨rfl, rfl⟩)
      go_round
      case rel => exact ⟨k + 1, by omega, by go_num, rfl⟩
      case measure => simp [intOf]; omega
    · go_wp2_with (go_at_call 25; refine (Tryd.strconv_ParseInt_10_at64_ok s (by omega) _ HP.out _).mono ?_; rintro e w' ⟨rfl, hw⟩)
      go_ret2
      refine ⟨rfl, ?_⟩
      rcases hw with rfl | ⟨t, rfl⟩
      · exact Below.refl _ _
      · exact Lib.bytesWorld_below _ _ _

theorem below_call {w w1 w2 : World} (h1 : Below w.heap.size w w1) (h2 : Below w1.heap.size w1 w2) : Below w.heap.size w w2 :=
  h1.trans (h2.mono h1.size)

set_option maxHeartbeats 400000 in
theorem parseLength_empty (w : World) :
    Calls Tryd.prog 17 #[.string ⟨#[]⟩] w fun e w' => ∃ x, e = .returned (.tuple #[.int .i64 0, .iface 62 x]) ∧ Below w.heap.size w w' := by
  go_enter Tryd.func17, Tryd.ntmps17
  go_wp2
  go_loop [4, 5] (fun n i => i = .int .i64 0 ∧ n = .bool true) (fun _ _ => 0)
  case atStart => exact ⟨rfl, rfl⟩
  case round =>
    obtain ⟨rfl, rfl⟩ := hrel
    go_wp2_with (go_at_call 24; refine (badRequest_any _ _).mono ?_; rintro e w' ⟨rfl, hw⟩)
    go_ret2
    exact ⟨_, rfl, hw⟩

set_option maxHeartbeats 400000 in
/-- parseLength at a string that is not empty and bears a byte that is no digit. -/
theorem parseLength_word (s : ByteArray) (w : World) (hs : s.size ≤ 1048576) (hne : s.data.toList ≠ []) (had : s.data.toList.all dig = false) :
    Calls Tryd.prog 17 #[.string s] w fun e w' => ∃ x, e = .returned (.tuple #[.int .i64 0, .iface 62 x]) ∧ Below w.heap.size w w' := by
  have hb : s.toList.isEmpty = false := isEmpty_no hne
  have had' : Hid (s.data.toList.all dig = false) := had
  clear had hne
  go_enter Tryd.func17, Tryd.ntmps17
  go_wp2
  go_loop [4, 5] (fun n i => ∃ k : Nat, k ≤ s.size ∧ i = .int .i64 k ∧ ((n = .bool false ∧ (s.data.toList.take k).all dig = true) ∨ n = .bool true)) (fun _ i => s.size - (intOf i).toNat)
  case atStart => exact ⟨0, Nat.zero_le _, rfl, .inl ⟨rfl, rfl⟩⟩
  case round =>
    obtain ⟨k, hk, rfl, hr⟩ := hrel
    by_cases hlt : k < s.size
    · rcases hr with ⟨rfl, ht⟩ | rfl
      · have HT : Hid ((s.data.toList.take k).all dig = true) := ht
        clear ht
        cases hd : dig s[k]
        · have HD : Hid (dig s[k] = false) := hd
          clear hd
          go_wp2_with (go_at_call 23; refine (isDigit_no _ _ HD.out).mono ?_; rintro e w' ⟨rfl, rfl⟩)
          go_round
          case rel => exact ⟨k + 1, by omega, by go_num, .inr rfl⟩
          case measure => simp [intOf]; omega
        · have HD : Hid (dig s[k] = true) := hd
          clear hd
          go_wp2_with (go_at_call 23; refine (isDigit_yes _ _ HD.out).mono ?_; rintro e w' ⟨rfl, rfl⟩)
          go_round
          case rel =>
            refine ⟨k + 1, by omega, by go_num, .inl ⟨rfl, ?_⟩⟩
            rw [all_take_snoc _ k (by simpa using hlt), HT.out, getElem_toList s k hlt, HD.out]; rfl
          case measure => simp [intOf]; omega
      · go_wp2_with (go_at_call 24; refine (badRequest_any _ _).mono ?_; rintro e w' ⟨rfl, hw⟩)
        go_ret2
        exact ⟨_, rfl, hw⟩
    · rcases hr with ⟨rfl, ht⟩ | rfl
      · exfalso
        rw [List.take_of_length_le (by simp; omega), had'.out] at ht
        cases ht
      · go_wp2_with (go_at_call 24; refine (badRequest_any _ _).mono ?_; rintro e w' ⟨rfl, hw⟩)
        go_ret2
        exact ⟨_, rfl, hw⟩

set_option maxHeartbeats 400000 in
/-- parseLength at a numeral that no int64 holds. -/
theorem parseLength_big (s : ByteArray) (ev : Value) (w : World) (hs : s.size ≤ 1048576) (hne : s.data.toList ≠ []) (had : s.data.toList.all dig = true) (hv : 9223372036854775807 < val s.data.toList)
    (hc : w.cell? ⟨2, 0, none⟩ = some ev) (hev : ev = .nilIface ∨ ∃ te pe, ev = .iface te pe) :
    Calls Tryd.prog 17 #[.string s] w fun e w' => ∃ x, e = .returned (.tuple #[.int .i64 0, .iface 62 x]) ∧ Below w.heap.size w w' := by
  have HP : Hid (Lib.parseIntB 64 s.data.toList = .range) := by
    show Lib.parseIntB 64 s.data.toList = .range
    rw [parse_digits _ hne had, if_neg (by omega)]
  have hb : s.toList.isEmpty = false := isEmpty_no hne
  have had' : Hid (s.data.toList.all dig = true) := had
  have HC : Hid (w.cell? ⟨2, 0, none⟩ = some ev) := hc
  have HE : Hid (ev = .nilIface ∨ ∃ te pe, ev = .iface te pe) := hev
  clear hv had hne hc hev
  go_enter Tryd.func17, Tryd.ntmps17
  go_wp2
  go_loop [4, 5] (fun n i => ∃ k : Nat, k ≤ s.size ∧ i = .int .i64 k ∧ n = .bool false) (fun _ i => s.size - (intOf i).toNat)
  case atStart => exact ⟨0, Nat.zero_le _, rfl, rfl⟩
  case round =>
    obtain ⟨k, hk, rfl, rfl⟩ := hrel
    by_cases hlt : k < s.size
    · have hd : dig s[k] = true := by
        have := List.all_eq_true.1 had'.out s[k] (by rw [← getElem_toList s k hlt]; exact List.getElem_mem _)
        exact this
      go_wp2_with (go_at_call 23; refine (isDigit_yes _ _ hd).mono ?_; rintro e w' ⟨rfl, rfl⟩)
      go_round
      case rel => exact ⟨k + 1, by omega, by go_num, rfl⟩
      case measure => simp [intOf]; omega
    · go_wp2_with (first
        | (go_at_call 25; refine (Tryd.strconv_ParseInt_10_at64_range s (by omega) HP.out ev _ HC.out HE.out).mono ?_; rintro e w1 ⟨N, rfl, -, -, hb1⟩)
        | (go_at_call 24; refine (badRequest_any _ _).mono ?_; rintro e w2 ⟨rfl, hb2⟩))
      go_ret2
      exact ⟨_, rfl, below_call hb1 hb2⟩

/-- parseLength where it refuses. -/
theorem parseLength_none (s : ByteArray) (ev : Value) (w : World) (hs : s.size ≤ 1048576) (h : plen s.data.toList = none)
    (hc : w.cell? ⟨2, 0, none⟩ = some ev) (hev : ev = .nilIface ∨ ∃ te pe, ev = .iface te pe) :
    Calls Tryd.prog 17 #[.string s] w fun e w' => ∃ x, e = .returned (.tuple #[.int .i64 0, .iface 62 x]) ∧ Below w.heap.size w w' := by
  by_cases hne : s.data.toList = []
  · obtain ⟨d⟩ := s
    have : d = #[] := by simpa using hne
    subst this
    exact parseLength_empty w
  · cases had : s.data.toList.all dig
    · exact parseLength_word s w hs hne had
    · refine parseLength_big s ev w hs hne had ?_ hc hev
      by_cases hv : val s.data.toList ≤ 9223372036854775807
      · rw [plen_mk hne had hv] at h; cases h
      · omega
end Go.Proofs.Qxb6608537aDoor
