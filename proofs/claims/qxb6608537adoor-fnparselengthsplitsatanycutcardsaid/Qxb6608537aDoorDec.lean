/-
  The walk of the law FnParseLengthIsTheDecimalValue.
-/
import Derived.Test.Qxb6608537aDoorLeaf
namespace Go.Proofs.Qxb6608537aDoor
open Go.RowKit
open Plain

set_option maxHeartbeats 400000 in
theorem zz6_yes (s : ByteArray) (w : World) (h : s.size ≤ 1048576) :
    Calls Tryd.prog 6 #[.string s] w fun e w' => e = .returned (.bool true) ∧ w' = w := by
  go_enter Tryd.func6, Tryd.ntmps6
  go_wp2
  go_ret
  exact ⟨rfl, rfl⟩

set_option maxHeartbeats 400000 in
theorem zz6_no (s : ByteArray) (w : World) (h : 1048576 < s.size) :
    Calls Tryd.prog 6 #[.string s] w fun e w' => e = .returned (.bool false) ∧ w' = w := by
  go_enter Tryd.func6, Tryd.ntmps6
  go_wp2
  go_ret
  exact ⟨rfl, rfl⟩

set_option maxHeartbeats 400000 in
theorem zz7_some (s : ByteArray) (w : World) (hs : s.size ≤ 1048576) (v : Nat) (h : plen s.data.toList = some v) :
    Calls Tryd.prog 7 #[.string s] w fun e w' => e = .returned (.tuple #[.int .i64 v, .nilIface]) ∧ Below w.heap.size w w' := by
  have H : Hid (plen s.data.toList = some v) := h
  clear h
  go_enter Tryd.func7, Tryd.ntmps7
  go_wp2_with (go_at_call 17; refine (parseLength_some s _ hs v H.out).mono ?_; rintro e w' ⟨rfl, hw⟩)
  go_ret2
  exact ⟨rfl, hw⟩

set_option maxHeartbeats 400000 in
theorem zz7_none (s : ByteArray) (ev : Value) (w : World) (hs : s.size ≤ 1048576) (h : plen s.data.toList = none)
    (hc : w.cell? ⟨2, 0, none⟩ = some ev) (hev : ev = .nilIface ∨ ∃ te pe, ev = .iface te pe) :
    Calls Tryd.prog 7 #[.string s] w fun e w' => ∃ x, e = .returned (.tuple #[.int .i64 0, .iface 62 x]) ∧ Below w.heap.size w w' := by
  have H : Hid (plen s.data.toList = none) := h
  have HC : Hid (w.cell? ⟨2, 0, none⟩ = some ev) := hc
  have HE : Hid (ev = .nilIface ∨ ∃ te pe, ev = .iface te pe) := hev
  clear h hc hev
  go_enter Tryd.func7, Tryd.ntmps7
  go_wp2_with (go_at_call 17; refine (parseLength_none s ev _ hs H.out HC.out HE.out).mono ?_; rintro e w' ⟨x, rfl, hw⟩)
  go_ret2
  exact ⟨_, rfl, hw⟩

theorem ret_bool {a b : Bool} (h : a = b) : Ending.returned (.bool a) = .returned (.bool b) := by rw [h]

set_option maxHeartbeats 400000 in
theorem dec_long (s : ByteArray) (w : World) (h : 1048576 < s.size) :
    Calls Tryd.prog 3 #[.string s] w fun e w' => e = .returned (.bool true) ∧ Below w.heap.size w w' := by
  go_enter Tryd.func3, Tryd.ntmps3
  go_wp2_with (go_at_call 6; refine (zz6_no s _ h).mono ?_; rintro e w' ⟨rfl, rfl⟩)
  go_ret
  exact ⟨rfl, Below.refl _ _⟩

/-- What one round reckons. -/
theorem round_num {l : List UInt8} {k : Nat} (hlt : k < l.length) (hd : dig l[k] = true) :
    val (l.take (k + 1)) = val (l.take k) * 10 + (l[k].toNat - 48) ∧ 48 ≤ l[k].toNat ∧ l[k].toNat ≤ 57 := by
  have h2 := dig_iff.1 hd
  refine ⟨?_, h2⟩
  rw [take_snoc l k hlt, val_snoc]

set_option maxHeartbeats 1000000 in
theorem dec_some (s : ByteArray) (w : World) (hs : s.size ≤ 1048576) (v : Nat) (h : plen s.data.toList = some v) :
    Calls Tryd.prog 3 #[.string s] w fun e w' => e = .returned (.bool true) ∧ Below w.heap.size w w' := by
  obtain ⟨hne, had, hv, hvv⟩ := plen_some h
  have H : Hid (plen s.data.toList = some v) := h
  have hpos : 0 < s.size := by
    rcases Nat.eq_zero_or_pos s.size with h0 | h0
    · exfalso; apply hne
      have : s.data.toList.length = 0 := by simpa using h0
      exact List.eq_nil_of_length_eq_zero this
    · exact h0
  have HA : Hid (s.data.toList.all dig = true) := had
  have HV : Hid (val s.data.toList ≤ 9223372036854775807) := hv
  have HVV : Hid (v = val s.data.toList) := hvv
  clear hne had hv hvv h
  go_enter Tryd.func3, Tryd.ntmps3
  go_wp2_with (first
    | (go_at_call 6; refine (zz6_yes s _ hs).mono ?_; rintro e w' ⟨rfl, rfl⟩)
    | (go_at_call 7; refine (zz7_some s _ hs v H.out).mono ?_; rintro e w' ⟨rfl, hw⟩))
  go_loop [5, 6, 7] (fun o x i => ∃ k : Nat, k ≤ s.size ∧ i = .int .i64 k ∧ o = .bool true ∧ x = .int .i64 (val (s.data.toList.take k))) (fun _ _ i => s.size - (intOf i).toNat)
  case atStart => exact ⟨0, Nat.zero_le _, rfl, rfl, rfl⟩
  case round =>
    obtain ⟨k, hk, rfl, rfl, rfl⟩ := hrel
    by_cases hlt : k < s.size
    · have hd : dig s[k] = true := List.all_eq_true.1 HA.out s[k] (by rw [← getElem_toList s k hlt]; exact List.getElem_mem _)
      have hle : val (s.data.toList.take (k + 1)) ≤ 9223372036854775807 := Nat.le_trans (val_take_le _ _) HV.out
      obtain ⟨e1, e2, e3⟩ := round_num (l := s.data.toList) (k := k) (by simpa using hlt) hd
      rw [getElem_toList s k hlt] at e1 e2 e3
      have HX : Hid (val (s.data.toList.take (k + 1)) = val (s.data.toList.take k) * 10 + (s[k].toNat - 48)) := e1
      have hb : (val (s.data.toList.take k) : Int) * 10 + ((s[k].toNat : Int) - 48) ≤ 9223372036854775807 := by omega
      have hq : (val (s.data.toList.take k) : Int) ≤ (9223372036854775807 - ((s[k].toNat : Int) - 48)) / 10 := by omega
      have e2' : (48 : Int) ≤ (s[k].toNat : Int) := by omega
      have e3' : (s[k].toNat : Int) ≤ 57 := by omega
      clear hd hle e1 e2 e3
      go_wp2
      go_round
      case rel => exact ⟨k + 1, by omega, by go_num, rfl, by rw [HX.out]; go_num⟩
      case measure => simp [intOf]; omega
    · have he : ((v : Int) == (val (s.data.toList.take k) : Int)) = true := by
        rw [List.take_of_length_le (by simp; omega), HVV.out]; exact beq_self_eq_true _
      go_wp2
      go_ret
      exact ⟨rfl, hw⟩

set_option maxHeartbeats 400000 in
theorem dec_empty (ev : Value) (w : World) (hc : w.cell? ⟨2, 0, none⟩ = some ev) (hev : ev = .nilIface ∨ ∃ te pe, ev = .iface te pe) :
    Calls Tryd.prog 3 #[.string ⟨#[]⟩] w fun e w' => e = .returned (.bool true) ∧ Below w.heap.size w w' := by
  have HC : Hid (w.cell? ⟨2, 0, none⟩ = some ev) := hc
  have HE : Hid (ev = .nilIface ∨ ∃ te pe, ev = .iface te pe) := hev
  clear hc hev
  go_enter Tryd.func3, Tryd.ntmps3
  go_wp2_with (first
    | (go_at_call 6; refine (zz6_yes _ _ (by decide)).mono ?_; rintro e w' ⟨rfl, rfl⟩)
    | (go_at_call 7; refine (zz7_none _ ev _ (by decide) plen_nil HC.out HE.out).mono ?_; rintro e w' ⟨x, rfl, hw⟩))
  go_loop [5, 6, 7] (fun o x i => i = .int .i64 0 ∧ o = .bool false ∧ x = .int .i64 0) (fun _ _ _ => 0)
  case atStart => exact ⟨rfl, rfl, rfl⟩
  case round =>
    obtain ⟨rfl, rfl, rfl⟩ := hrel
    go_wp2
    go_ret
    exact ⟨rfl, hw⟩

set_option maxHeartbeats 1000000 in
theorem dec_none (s : ByteArray) (ev : Value) (w : World) (hs : s.size ≤ 1048576) (hpos : 0 < s.size) (h : plen s.data.toList = none)
    (hc : w.cell? ⟨2, 0, none⟩ = some ev) (hev : ev = .nilIface ∨ ∃ te pe, ev = .iface te pe) :
    Calls Tryd.prog 3 #[.string s] w fun e w' => e = .returned (.bool true) ∧ Below w.heap.size w w' := by
  have H : Hid (plen s.data.toList = none) := h
  have HC : Hid (w.cell? ⟨2, 0, none⟩ = some ev) := hc
  have HE : Hid (ev = .nilIface ∨ ∃ te pe, ev = .iface te pe) := hev
  clear h hc hev
  go_enter Tryd.func3, Tryd.ntmps3
  go_wp2_with (first
    | (go_at_call 6; refine (zz6_yes s _ hs).mono ?_; rintro e w' ⟨rfl, rfl⟩)
    | (go_at_call 7; refine (zz7_none s ev _ hs H.out HC.out HE.out).mono ?_; rintro e w' ⟨y, rfl, hw⟩))
  go_loop [5, 6, 7] (fun o x i => ∃ (k : Nat) (z : Int), k ≤ s.size ∧ i = .int .i64 k ∧ x = .int .i64 z ∧
      ((o = .bool true ∧ z = val (s.data.toList.take k) ∧ z ≤ 9223372036854775807 ∧ (s.data.toList.take k).all dig = true) ∨ o = .bool false)) (fun _ _ i => s.size - (intOf i).toNat)
  case atStart => exact ⟨0, 0, Nat.zero_le _, rfl, rfl, .inl ⟨rfl, by simp [val, valFrom_nil], by omega, rfl⟩⟩
  case round =>
    obtain ⟨k, z, hk, rfl, rfl, hr⟩ := hrel
    rcases hr with ⟨rfl, hz, hzm, ht⟩ | rfl
    · have HZ : Hid (z = val (s.data.toList.take k)) := hz
      have HT : Hid ((s.data.toList.take k).all dig = true) := ht
      have hz0 : 0 ≤ z := by omega
      clear hz ht
      by_cases hlt : k < s.size
      · have hll : k < s.data.toList.length := by simpa using hlt
        have HL : Hid (k < s.data.toList.length) := hll
        clear hll
        have hc8 : (s[k].toNat : Int) ≤ 255 := by have := s[k].toNat_lt; omega
        by_cases hd : (48 : Int) ≤ (s[k].toNat : Int) ∧ (s[k].toNat : Int) ≤ 57
        · obtain ⟨e2, e3⟩ := hd
          have hdd : dig s[k] = true := dig_iff.2 (by omega)
          have hn := round_num HL.out (by rw [getElem_toList s k hlt]; exact hdd)
          rw [getElem_toList s k hlt] at hn
          have HX : Hid ((val (s.data.toList.take (k + 1)) : Int) = z * 10 + ((s[k].toNat : Int) - 48)) := by
            show (val (s.data.toList.take (k + 1)) : Int) = z * 10 + ((s[k].toNat : Int) - 48)
            rw [hn.1, HZ.out]; omega
          have HD : Hid (dig s[k] = true) := hdd
          clear hdd hn
          by_cases hq : (9223372036854775807 - ((s[k].toNat : Int) - 48)) / 10 < z
          · go_wp2
            go_round
            case rel => exact ⟨k + 1, z, by omega, by go_num, rfl, .inr rfl⟩
            case measure => simp [intOf]; omega
          · have hb : z * 10 + ((s[k].toNat : Int) - 48) ≤ 9223372036854775807 := by omega
            go_wp2
            go_round
            case rel =>
              refine ⟨k + 1, _, by omega, by go_num, rfl, .inl ⟨rfl, HX.out.symm, hb, ?_⟩⟩
              have e9 : dig (s.data.toList[k]'HL.out) = true := HD.out
              rw [all_take_snoc _ k HL.out, HT.out, e9]; rfl
            case measure => simp [intOf]; omega
        · by_cases e2 : (s[k].toNat : Int) < 48
          · clear hd
            go_wp2
            go_round
            case rel => exact ⟨k + 1, z, by omega, by go_num, rfl, .inr rfl⟩
            case measure => simp [intOf]; omega
          · have e3 : (57 : Int) < (s[k].toNat : Int) := by omega
            clear hd
            go_wp2
            go_round
            case rel => exact ⟨k + 1, z, by omega, by go_num, rfl, .inr rfl⟩
            case measure => simp [intOf]; omega
      · exfalso
        have h1 : s.data.toList.take k = s.data.toList := List.take_of_length_le (by simp; omega)
        have h2 := HT.out
        have h3 := HZ.out
        have h4 := H.out
        rw [h1] at h2 h3
        have h5 : s.data.toList ≠ [] := by
          intro h0
          have h7 : s.size = 0 := by
            show s.data.size = 0
            rw [← Array.length_toList, h0]; rfl
          omega
        rw [plen_mk h5 h2 (by omega)] at h4
        cases h4
    · by_cases hlt : k < s.size
      · go_wp2
        go_ret
        exact ⟨rfl, hw⟩
      · go_wp2
        go_ret
        exact ⟨rfl, hw⟩

/-- ████ THE WALK OF THE LAW, at every string. -/
theorem dec_any (s : ByteArray) (ev : Value) (w : World) (hc : w.cell? ⟨2, 0, none⟩ = some ev) (hev : ev = .nilIface ∨ ∃ te pe, ev = .iface te pe) :
    Calls Tryd.prog 3 #[.string s] w fun e w' => e = .returned (.bool true) ∧ Below w.heap.size w w' := by
  by_cases hs : s.size ≤ 1048576
  · by_cases hpos : 0 < s.size
    · cases h : plen s.data.toList with
      | none => exact dec_none s ev w hs hpos h hc hev
      | some v => exact dec_some s w hs v h
    · obtain ⟨d⟩ := s
      have h0 : d = #[] := Array.eq_empty_of_size_eq_zero (by simp [ByteArray.size] at hpos; simpa using hpos)
      subst h0
      exact dec_empty ev w hc hev
  · exact dec_long s w (by omega)
end Go.Proofs.Qxb6608537aDoor
