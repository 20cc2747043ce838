/-
  The law FnParseLengthSplitsAtAnyCut: its callees.
-/
import Derived.Test.Qxb6608537aDoorDec
import Derived.Deep.QuietTactic
import Derived.BigQuiet
namespace Go.Proofs.Qxb6608537aDoor
open Go.RowKit
open Plain

set_option maxHeartbeats 400000 in
theorem zz8_yes (a b : ByteArray) (w : World) (h : a.size + b.size ≤ 1048576) :
    Calls Tryd.prog 8 #[.string a, .string b] w fun e w' => e = .returned (.bool true) ∧ w' = w := by
  go_enter Tryd.func8, Tryd.ntmps8
  go_wp2
  go_ret
  exact ⟨rfl, rfl⟩

set_option maxHeartbeats 400000 in
theorem zz8_no (a b : ByteArray) (w : World) (ha : a.size ≤ 9223372036854775807) (hb : b.size ≤ 9223372036854775807) (h : 1048576 < a.size + b.size) :
    Calls Tryd.prog 8 #[.string a, .string b] w fun e w' => e = .returned (.bool false) ∧ w' = w := by
  by_cases h1 : a.size ≤ 1048576
  · by_cases h2 : b.size ≤ 1048576
    · go_enter Tryd.func8, Tryd.ntmps8
      go_wp2
      go_ret
      exact ⟨rfl, rfl⟩
    · go_enter Tryd.func8, Tryd.ntmps8
      go_wp2
      go_ret
      exact ⟨rfl, rfl⟩
  · go_enter Tryd.func8, Tryd.ntmps8
    go_wp2
    go_ret
    exact ⟨rfl, rfl⟩

/-- What ZZparseLength hands back of the bytes l: a number and an error value. -/
def Got (l : List UInt8) (v : Int) (e : Value) : Prop :=
  (∃ n : Nat, plen l = some n ∧ v = n ∧ e = .nilIface) ∨ (plen l = none ∧ v = 0 ∧ ∃ x, e = .iface 62 x)

theorem zz7_any (s : ByteArray) (ev : Value) (w : World) (hs : s.size ≤ 1048576)
    (hc : w.cell? ⟨2, 0, none⟩ = some ev) (hev : ev = .nilIface ∨ ∃ te pe, ev = .iface te pe) :
    Calls Tryd.prog 7 #[.string s] w fun e w' => ∃ v er, e = .returned (.tuple #[.int .i64 v, er]) ∧ Got s.data.toList v er ∧ Below w.heap.size w w' := by
  cases h : plen s.data.toList with
  | none =>
    refine (zz7_none s ev w hs h hc hev).mono ?_
    rintro e w' ⟨x, rfl, hw⟩
    exact ⟨_, _, rfl, .inr ⟨h, rfl, _, rfl⟩, hw⟩
  | some n =>
    refine (zz7_some s w hs n h).mono ?_
    rintro e w' ⟨rfl, hw⟩
    exact ⟨_, _, rfl, .inl ⟨n, h, rfl, rfl⟩, hw⟩

/-- What zzAllDigits answers. -/
def Nine (s : ByteArray) (e : Ending) : Prop := ∃ d : Bool, e = .returned (.bool d) ∧ d = s.data.toList.all dig
theorem nine_false {s : ByteArray} (h : s.data.toList.all dig = false) : Nine s (.returned (.bool false)) := ⟨_, rfl, h.symm⟩
theorem nine_true {s : ByteArray} (h : s.data.toList.all dig = true) : Nine s (.returned (.bool true)) := ⟨_, rfl, h.symm⟩

set_option maxHeartbeats 400000 in
theorem zz9_any (s : ByteArray) (w : World) (hs : s.size ≤ 1048576) :
    Calls Tryd.prog 9 #[.string s] w fun e w' => Nine s e ∧ w' = w := by
  go_enter Tryd.func9, Tryd.ntmps9
  go_wp2
  go_loop [3] (fun i => ∃ k : Nat, k ≤ s.size ∧ i = .int .i64 k ∧ (s.data.toList.take k).all dig = true) (fun i => s.size - (intOf i).toNat)
  case atStart => exact ⟨0, Nat.zero_le _, rfl, rfl⟩
  case round =>
    obtain ⟨k, hk, rfl, ht⟩ := hrel
    have HT : Hid ((s.data.toList.take k).all dig = true) := ht
    clear ht
    by_cases hlt : k < s.size
    · have hll : k < s.data.toList.length := by simpa using hlt
      have HL : Hid (k < s.data.toList.length) := hll
      clear hll
      by_cases e2 : (s[k].toNat : Int) < 48
      · have HF : Hid (s.data.toList.all dig = false) := all_false_of HL.out (by
          show dig s[k] = false
          rw [Bool.eq_false_iff]; intro h; have := dig_iff.1 h; omega)
        go_wp2
        go_ret
        exact ⟨nine_false HF.out, rfl⟩
      · by_cases e3 : (57 : Int) < (s[k].toNat : Int)
        · have HF : Hid (s.data.toList.all dig = false) := all_false_of HL.out (by
            show dig s[k] = false
            rw [Bool.eq_false_iff]; intro h; have := dig_iff.1 h; omega)
          go_wp2
          go_ret
          exact ⟨nine_false HF.out, rfl⟩
        · have HD : Hid (dig s[k] = true) := dig_iff.2 (by omega)
          go_wp2
          go_round
          case rel =>
            refine ⟨k + 1, by omega, by go_num, ?_⟩
            have e9 : dig (s.data.toList[k]'HL.out) = true := HD.out
            rw [all_take_snoc _ k HL.out, HT.out, e9]; rfl
          case measure => simp [intOf]; omega
    · go_wp2
      go_ret
      refine ⟨nine_true ?_, rfl⟩
      have h1 : s.data.toList.take k = s.data.toList := List.take_of_length_le (by simp; omega)
      rw [← h1, HT.out]

/-- The variable's cell behind a call that turned nothing old. -/
theorem cell_kept {w w1 : World} {ev : Value} (hc : w.cell? ⟨2, 0, none⟩ = some ev) (hb : Below w.heap.size w w1) : w1.cell? ⟨2, 0, none⟩ = some ev := by
  rw [hb.cell (p := ⟨2, 0, none⟩) (Lib.lt_of_cell hc)]; exact hc

theorem got_none {l : List UInt8} {v : Int} {e : Value} (g : Got l v e) (h : plen l = none) : v = 0 ∧ ∃ x, e = .iface 62 x := by
  rcases g with ⟨n, h2, _⟩ | ⟨_, h2⟩
  · rw [h] at h2; cases h2
  · exact h2
theorem got_some {l : List UInt8} {v : Int} {e : Value} {n : Nat} (g : Got l v e) (h : plen l = some n) : v = n ∧ e = .nilIface := by
  rcases g with ⟨m, h2, h3⟩ | ⟨h2, _⟩
  · rw [h] at h2; cases h2; exact h3
  · rw [h] at h2; cases h2
theorem data_append (a b : ByteArray) : (a ++ b).data.toList = a.data.toList ++ b.data.toList := by
  rw [ByteArray.data_append, Array.toList_append]
theorem size_append (a b : ByteArray) : (a ++ b).size = a.size + b.size := ByteArray.size_append
theorem isEmpty_yes {s : ByteArray} (h : s.size = 0) : s.toList.isEmpty = true := by
  rw [ByteArray.toList_eq]
  have : s.data.toList.length = 0 := by simpa using h
  rw [List.eq_nil_of_length_eq_zero this]; rfl
theorem isEmpty_pos {s : ByteArray} (h : 0 < s.size) : s.toList.isEmpty = false := by
  apply isEmpty_no
  intro h0
  have h7 : s.size = 0 := by
    show s.data.size = 0
    rw [← Array.length_toList, h0]; rfl
  omega
theorem nil_of_size {s : ByteArray} (h : s.size = 0) : s.data.toList = [] := by
  have : s.data.toList.length = 0 := by simpa using h
  exact List.eq_nil_of_length_eq_zero this
theorem ne_of_size {s : ByteArray} (h : 0 < s.size) : s.data.toList ≠ [] := by
  intro h0
  have h7 : s.size = 0 := by
    show s.data.size = 0
    rw [← Array.length_toList, h0]; rfl
  omega
theorem size_pos {s : ByteArray} (h : s.data.toList ≠ []) : 0 < s.size := by
  rcases Nat.eq_zero_or_pos s.size with h0 | h0
  · exact absurd (nil_of_size h0) h
  · exact h0
theorem len_toList (s : ByteArray) : s.data.toList.length = s.size := Array.length_toList
theorem small_lt {s : ByteArray} (h : s.data.toList.all dig = true) (h18 : s.size ≤ 18) : val s.data.toList < 1000000000000000000 := by
  have h1 := val_lt _ h
  rw [len_toList] at h1
  have h2 : (10 : Nat) ^ s.size ≤ 10 ^ 18 := Nat.pow_le_pow_right (by omega) h18
  have h3 : (10 : Nat) ^ 18 = 1000000000000000000 := by decide
  omega
theorem small_le {s : ByteArray} (h : s.data.toList.all dig = true) (h18 : s.size ≤ 18) : val s.data.toList ≤ 9223372036854775807 := by
  have := small_lt h h18
  omega
/-- What the first loop's test meets. -/
theorem hi_facts (s : ByteArray) (k : Nat) (z : Int) (hk : k = s.size) (hz : z = 10 ^ k) (had : s.data.toList.all dig = true) : (val s.data.toList : Int) < z := by
  have h1 := val_lt _ had
  rw [len_toList, ← hk] at h1
  rw [hz]
  have h2 : ((10 ^ k : Nat) : Int) = (10 : Int) ^ k := by simp
  omega
theorem lo_facts (s : ByteArray) (k : Nat) (z : Int) (hk : k = s.size) (hz : z = 10 ^ k) (h0 : 0 < s.size) (h49 : 49 ≤ (s[0].toNat : Int)) : z / 10 ≤ (val s.data.toList : Int) := by
  have hl : 0 < s.data.toList.length := by rw [len_toList]; exact h0
  obtain ⟨c, r, e⟩ : ∃ c r, s.data.toList = c :: r := by
    cases hh : s.data.toList with
    | nil => rw [hh] at hl; simp at hl
    | cons c r => exact ⟨c, r, rfl⟩
  have hc : s[0] = c := by
    have h1 : s[0] = s.data.toList[0]'hl := rfl
    rw [h1]; simp only [e, List.getElem_cons_zero]
  rw [hc] at h49
  have h1 := val_ge c r (by omega)
  have h2 : k = r.length + 1 := by rw [hk, ← len_toList, e, List.length_cons]
  rw [e, hz, h2, Int.pow_succ]
  have h3 : ((10 ^ r.length : Nat) : Int) = (10 : Int) ^ r.length := by simp
  omega
theorem pow_bd (k : Nat) (h : k < 18) : 0 < (10 : Int) ^ k ∧ (10 : Int) ^ k ≤ 100000000000000000 := by
  have h1 : (10 : Nat) ^ k ≤ 10 ^ 17 := Nat.pow_le_pow_right (by omega) (by omega)
  have h2 : (10 : Nat) ^ 17 = 100000000000000000 := by decide
  have h3 : ((10 ^ k : Nat) : Int) = (10 : Int) ^ k := by simp
  have h4 : 0 < (10 : Nat) ^ k := Nat.pow_pos (by omega)
  omega
theorem pow_le18 (k : Nat) (h : k ≤ 18) : (10 : Int) ^ k ≤ 1000000000000000000 := by
  have h1 : (10 : Nat) ^ k ≤ 10 ^ 18 := Nat.pow_le_pow_right (by omega) (by omega)
  have h2 : (10 : Nat) ^ 18 = 1000000000000000000 := by decide
  have h3 : ((10 ^ k : Nat) : Int) = (10 : Int) ^ k := by simp
  omega
theorem wrap_one : (1 : Int) = wrap64 (10 ^ 0) := by
  rw [Int.pow_zero]; unfold wrap64; omega
theorem wrap_mul10 (x : Int) : wrap64 (wrap64 x * 10) = wrap64 (x * 10) := by unfold wrap64; omega
theorem wrap_shift (x q : Int) : wrap64 (x + 18446744073709551616 * q) = wrap64 x := by unfold wrap64; omega
theorem wrap_addl (x y : Int) : wrap64 (wrap64 x + y) = wrap64 (x + y) := by unfold wrap64; omega
theorem wrap_ex (x : Int) : ∃ q, wrap64 x = x + 18446744073709551616 * q := by
  unfold wrap64
  exact ⟨-((x + 9223372036854775808) / 18446744073709551616), by omega⟩
/-- What the second loop's test meets. -/
theorem pw_final (n m V : Nat) (k : Nat) (z : Int) (hz : z = wrap64 (10 ^ k)) (hV : V = n * 10 ^ k + m) (hle : V ≤ 9223372036854775807) : wrap64 (wrap64 (n * z) + m) = V := by
  obtain ⟨q, hq⟩ := wrap_ex (10 ^ k)
  rw [hz, hq]
  have e1 : (n : Int) * (10 ^ k + 18446744073709551616 * q) = n * 10 ^ k + 18446744073709551616 * (n * q) := by
    rw [Int.mul_add, ← Int.mul_assoc, ← Int.mul_assoc, Int.mul_comm (n : Int) 18446744073709551616]
  rw [e1, wrap_shift, wrap_addl]
  have e2 : (n : Int) * 10 ^ k + m = V := by
    rw [hV]; simp
  rw [e2]
  exact IntWalk.wrap64_in _ (by omega)
theorem plen_app_some {a b : List UInt8} {V : Nat} (h : plen (a ++ b) = some V) (ha : a ≠ []) (hb : b ≠ []) :
    plen a = some (val a) ∧ plen b = some (val b) ∧ V = val a * 10 ^ b.length + val b ∧ V ≤ 9223372036854775807 := by
  obtain ⟨-, h2, h3, h4⟩ := plen_some h
  rw [List.all_append, Bool.and_eq_true] at h2
  rw [val_append] at h3 h4
  have h5 : 0 < 10 ^ b.length := Nat.pow_pos (by omega)
  have h6 : val a * 1 ≤ val a * 10 ^ b.length := Nat.mul_le_mul_left _ h5
  exact ⟨plen_mk ha h2.1 (by omega), plen_mk hb h2.2 (by omega), h4, by omega⟩
/-- Where the two together have at most 18 digits, the numeral is taken. -/
theorem plen_app_small {a b : ByteArray} (ha : a.data.toList ≠ []) (h1 : a.data.toList.all dig = true) (h2 : b.data.toList.all dig = true) (h : a.size + b.size ≤ 18) :
    plen (a.data.toList ++ b.data.toList) = some (val (a.data.toList ++ b.data.toList)) := by
  have h3 : (a ++ b).data.toList.all dig = true := by rw [data_append, List.all_append, h1, h2]; rfl
  have h4 := small_le h3 (by rw [size_append]; exact h)
  rw [data_append] at h3 h4
  exact plen_mk (by simp [ha]) h3 h4
theorem below3 {w w1 w2 w3 : World} (h1 : Below w.heap.size w w1) (h2 : Below w1.heap.size w1 w2) (h3 : Below w2.heap.size w2 w3) : Below w.heap.size w w3 :=
  below_call (below_call h1 h2) h3
theorem plen_app_l {l m : List UInt8} (h : l.all dig = false) : plen (l ++ m) = none :=
  plen_nondig (by rw [List.all_append, h]; rfl)
theorem plen_app_r {l m : List UInt8} (h : m.all dig = false) : plen (l ++ m) = none :=
  plen_nondig (by rw [List.all_append, h]; cases l.all dig <;> rfl)

set_option maxRecDepth 100000 in
set_option maxHeartbeats 400000 in
theorem split_long (a b : ByteArray) (w : World) (ha : a.size ≤ 9223372036854775807) (hb : b.size ≤ 9223372036854775807) (h : 1048576 < a.size + b.size) :
    Calls Tryd.prog 4 #[.string a, .string b] w fun e w' => e = .returned (.bool true) ∧ Below w.heap.size w w' := by
  go_enter Tryd.func4, Tryd.ntmps4
  go_wp2_with (go_at_call 8; refine (zz8_no a b _ ha hb h).mono ?_; rintro e w' ⟨rfl, rfl⟩)
  go_ret
  exact ⟨rfl, Below.refl _ _⟩

set_option maxRecDepth 100000 in
set_option maxHeartbeats 400000 in
theorem split_half (a b : ByteArray) (w : World) (h : a.size + b.size ≤ 1048576) (h2 : 524288 < a.size ∨ 524288 < b.size) :
    Calls Tryd.prog 4 #[.string a, .string b] w fun e w' => e = .returned (.bool true) ∧ Below w.heap.size w w' := by
  by_cases h3 : 524288 < a.size
  · clear h2
    go_enter Tryd.func4, Tryd.ntmps4
    go_wp2_with (go_at_call 8; refine (zz8_yes a b _ h).mono ?_; rintro e w' ⟨rfl, rfl⟩)
    go_ret
    exact ⟨rfl, Below.refl _ _⟩
  · have h4 : 524288 < b.size := by omega
    clear h2
    go_enter Tryd.func4, Tryd.ntmps4
    go_wp2_with (go_at_call 8; refine (zz8_yes a b _ h).mono ?_; rintro e w' ⟨rfl, rfl⟩)
    go_ret
    exact ⟨rfl, Below.refl _ _⟩
end Go.Proofs.Qxb6608537aDoor
