/-
  limitsAre, the test on lengths.
-/
import Derived.Test.Qxb6609109aBuild
import Derived.Laws.OwnMore
import Derived.Deep.QuietTactic
import Derived.BigQuiet
namespace Go.Proofs.Qxb6609109a
open Go.RowKit

theorem flat_len (f g : Nat → Int) (n : Nat) : (flat f g n).length = n * 2 := by
  induction n with
  | zero => rfl
  | succ n ih => rw [flat, List.length_append, ih]; simp; omega
theorem flat_at (f g : Nat → Int) (n : Nat) : ∀ k, k < n → (flat f g n)[k * 2]? = some (.int .i64 (f k)) ∧ (flat f g n)[k * 2 + 1]? = some (.int .i64 (g k)) := by
  induction n with
  | zero => intro k h; omega
  | succ n ih =>
    intro k h
    rw [flat]
    by_cases hk : k < n
    · obtain ⟨h1, h2⟩ := ih k hk
      rw [List.getElem?_append_left (by rw [flat_len]; omega), List.getElem?_append_left (by rw [flat_len]; omega)]
      exact ⟨h1, h2⟩
    · obtain rfl : k = n := by omega
      rw [List.getElem?_append_right (by rw [flat_len]; omega), List.getElem?_append_right (by rw [flat_len]; omega), flat_len]
      rw [Nat.sub_self, show k * 2 + 1 - k * 2 = 1 from by omega]
      exact ⟨rfl, rfl⟩
theorem own_at {w : World} {base n g cap : Nat} {f h : Nat → Int} (ho : w.ownsRow base 32 2 (.slice (some ⟨g, 0, none⟩) n cap) n (flat f h n)) (k : Nat) (hk : k < n) :
    w.cell? ⟨g, k * 2, none⟩ = some (.int .i64 (f k)) ∧ w.cell? ⟨g, k * 2 + 1, none⟩ = some (.int .i64 (h k)) := by
  obtain ⟨h1, h2⟩ := flat_at f h n k hk
  rw [ho.cellAt (k * 2) (by omega), ho.cellAt (k * 2 + 1) (by omega)]
  exact ⟨h1, h2⟩

set_option maxHeartbeats 1000000 in
theorem are_some (f h : Nat → Int) (n g cap b0 o0 c0 b1 o1 c1 : Nat) (w : World) (hn : n ≤ 4096)
    (hl : ∀ k, k < n → w.cell? ⟨g, k * 2, none⟩ = some (.int .i64 (f k)) ∧ w.cell? ⟨g, k * 2 + 1, none⟩ = some (.int .i64 (h k)))
    (h0 : ∀ i, i < n → w.cell? ⟨b0, o0 + i, none⟩ = some (.int .i64 (f i))) (h1 : ∀ i, i < n → w.cell? ⟨b1, o1 + i, none⟩ = some (.int .i64 (h i))) :
    Calls Try.prog 6 #[.slice (some ⟨g, 0, none⟩) n cap, .slice (some ⟨b0, o0, none⟩) n c0, .slice (some ⟨b1, o1, none⟩) n c1] w fun e w' => e = .returned (.bool true) ∧ ∃ q, w' = w.drewN q := by
  have HL : Hid (∀ k, k < n → w.cell? ⟨g, k * 2, none⟩ = some (.int .i64 (f k)) ∧ w.cell? ⟨g, k * 2 + 1, none⟩ = some (.int .i64 (h k))) := hl
  have H0 : Hid (∀ i, i < n → w.cell? ⟨b0, o0 + i, none⟩ = some (.int .i64 (f i))) := h0
  have H1 : Hid (∀ i, i < n → w.cell? ⟨b1, o1 + i, none⟩ = some (.int .i64 (h i))) := h1
  clear hl h0 h1
  go_enter Try.func6, Try.ntmps6
  go_wp2
  go_loopw [7] (fun i wr => ∃ (k q : Nat), k ≤ n ∧ i = .int .i64 k ∧ wr = w.drewN q) (fun i _ => n - (intOf i).toNat)
  case atStart => exact ⟨0, 0, Nat.zero_le _, rfl, rfl⟩
  case round =>
    obtain ⟨k, q, hk, rfl, rfl⟩ := hrel
    by_cases hlt : k < n
    · obtain ⟨hx, hy⟩ := HL.out k hlt
      have hx0 := H0.out k hlt
      have hx1 := H1.out k hlt
      go_wp2
      go_quiet (fail)
      go_wp2
      go_roundw
      case rel => exact ⟨k + 1, _, by omega, by go_num, rfl⟩
      case measure => simp [intOf]; omega
    · go_wp2
      go_ret
      exact ⟨rfl, q, rfl⟩

set_option maxHeartbeats 400000 in
theorem are_none (ao a0 a1 : Option Addr) (cap c0 c1 : Nat) (w : World) :
    Calls Try.prog 6 #[.slice ao 0 cap, .slice a0 0 c0, .slice a1 0 c1] w fun e w' => e = .returned (.bool true) ∧ w' = w := by
  go_enter Try.func6, Try.ntmps6
  go_wp2
  go_loop [7] (fun i => i = .int .i64 0) (fun _ => 0)
  case atStart => rfl
  case round =>
    subst hrel
    go_wp2
    go_ret
    exact ⟨rfl, rfl⟩

set_option maxHeartbeats 400000 in
theorem build_none (a0 a1 : Option Addr) (c0 c1 : Nat) (w : World) :
    Calls Try.prog 7 #[.slice a0 0 c0, .slice a1 0 c1] w fun e w' => e = .returned (.slice none 0 0) ∧ w' = w := by
  go_enter Try.func7, Try.ntmps7
  go_wp2
  go_loop [5, 6] (fun v i => i = .int .i64 0 ∧ v = .slice none 0 0) (fun _ _ => 0)
  case atStart => exact ⟨rfl, rfl⟩
  case round =>
    obtain ⟨rfl, rfl⟩ := hrel
    go_wp2
    go_ret
    exact ⟨rfl, rfl⟩

set_option maxHeartbeats 400000 in
theorem zz5_yes (a0 a1 : Option Addr) (l0 c0 l1 c1 : Nat) (w : World) (h : l0 + l1 ≤ 1048576) :
    Calls Try.prog 5 #[.slice a0 l0 c0, .slice a1 l1 c1] w fun e w' => e = .returned (.bool true) ∧ w' = w := by
  go_enter Try.func5, Try.ntmps5
  go_wp2
  go_ret
  exact ⟨rfl, rfl⟩
set_option maxHeartbeats 400000 in
theorem zz5_no (a0 a1 : Option Addr) (l0 c0 l1 c1 : Nat) (w : World) (h : 1048576 < l0 + l1) :
    Calls Try.prog 5 #[.slice a0 l0 c0, .slice a1 l1 c1] w fun e w' => e = .returned (.bool false) ∧ w' = w := by
  by_cases h1 : l0 ≤ 1048576
  · by_cases h2 : l1 ≤ 1048576
    · go_enter Try.func5, Try.ntmps5
      go_wp2
      go_ret
      exact ⟨rfl, rfl⟩
    · go_enter Try.func5, Try.ntmps5
      go_wp2
      go_ret
      exact ⟨rfl, rfl⟩
  · go_enter Try.func5, Try.ntmps5
    go_wp2
    go_ret
    exact ⟨rfl, rfl⟩

set_option maxHeartbeats 400000 in
theorem law_long (a0 a1 : Option Addr) (l0 c0 l1 c1 : Nat) (w : World) (h : 1048576 < l0 + l1) :
    Calls Try.prog 3 #[.slice a0 l0 c0, .slice a1 l1 c1] w fun e w' => e = .returned (.bool true) ∧ Below w.heap.size w w' := by
  go_enter Try.func3, Try.ntmps3
  go_wp2_with (go_at_call 5; refine (zz5_no _ _ _ _ _ _ _ h).mono ?_; rintro e w' ⟨rfl, rfl⟩)
  go_ret
  exact ⟨rfl, Below.refl _ _⟩

set_option maxHeartbeats 400000 in
theorem law_half (a0 a1 : Option Addr) (l0 c0 l1 c1 : Nat) (w : World) (h : l0 + l1 ≤ 1048576) (h2 : 4096 < l0 ∨ 4096 < l1) :
    Calls Try.prog 3 #[.slice a0 l0 c0, .slice a1 l1 c1] w fun e w' => e = .returned (.bool true) ∧ Below w.heap.size w w' := by
  by_cases h3 : 4096 < l0
  · clear h2
    go_enter Try.func3, Try.ntmps3
    go_wp2_with (go_at_call 5; refine (zz5_yes _ _ _ _ _ _ _ h).mono ?_; rintro e w' ⟨rfl, rfl⟩)
    go_ret
    exact ⟨rfl, Below.refl _ _⟩
  · have h4 : 4096 < l1 := by omega
    clear h2
    go_enter Try.func3, Try.ntmps3
    go_wp2_with (go_at_call 5; refine (zz5_yes _ _ _ _ _ _ _ h).mono ?_; rintro e w' ⟨rfl, rfl⟩)
    go_ret
    exact ⟨rfl, Below.refl _ _⟩

set_option maxHeartbeats 400000 in
theorem law_apart (a0 a1 : Option Addr) (l0 c0 l1 c1 : Nat) (w : World) (h0 : l0 ≤ 4096) (h1 : l1 ≤ 4096) (hne : ¬ l0 = l1) :
    Calls Try.prog 3 #[.slice a0 l0 c0, .slice a1 l1 c1] w fun e w' => e = .returned (.bool true) ∧ Below w.heap.size w w' := by
  have hb : ((l0 : Int) == (l1 : Int)) = false := by rw [beq_eq_false_iff_ne]; omega
  go_enter Try.func3, Try.ntmps3
  go_wp2_with (go_at_call 5; refine (zz5_yes _ _ _ _ _ _ _ (by omega)).mono ?_; rintro e w' ⟨rfl, rfl⟩)
  go_ret
  exact ⟨rfl, Below.refl _ _⟩

set_option maxHeartbeats 400000 in
theorem law_none (a0 a1 : Option Addr) (c0 c1 : Nat) (w : World) :
    Calls Try.prog 3 #[.slice a0 0 c0, .slice a1 0 c1] w fun e w' => e = .returned (.bool true) ∧ Below w.heap.size w w' := by
  go_enter Try.func3, Try.ntmps3
  go_wp2_with (first
    | (go_at_call 5; refine (zz5_yes _ _ _ _ _ _ _ (by omega)).mono ?_; rintro e w' ⟨rfl, rfl⟩)
    | (go_at_call 7; refine (build_none _ _ _ _ _).mono ?_; rintro e w' ⟨rfl, rfl⟩)
    | (go_at_call 6; refine (are_none _ _ _ _ _ _ _).mono ?_; rintro e w' ⟨rfl, rfl⟩))
  go_ret
  exact ⟨rfl, Below.refl _ _⟩

set_option maxHeartbeats 400000 in
theorem law_some (f h : Nat → Int) (n b0 o0 c0 b1 o1 c1 : Nat) (w : World) (hn : n ≤ 4096) (hp : 0 < n) (hb0 : b0 < w.heap.size) (hb1 : b1 < w.heap.size)
    (h0 : ∀ i, i < n → w.cell? ⟨b0, o0 + i, none⟩ = some (.int .i64 (f i))) (h1 : ∀ i, i < n → w.cell? ⟨b1, o1 + i, none⟩ = some (.int .i64 (h i))) :
    Calls Try.prog 3 #[.slice (some ⟨b0, o0, none⟩) n c0, .slice (some ⟨b1, o1, none⟩) n c1] w fun e w' => e = .returned (.bool true) ∧ Below w.heap.size w w' := by
  have H0 : Hid (∀ i, i < n → w.cell? ⟨b0, o0 + i, none⟩ = some (.int .i64 (f i))) := h0
  have H1 : Hid (∀ i, i < n → w.cell? ⟨b1, o1 + i, none⟩ = some (.int .i64 (h i))) := h1
  clear h0 h1
  go_enter Try.func3, Try.ntmps3
  go_wp2_with fail
  refine (zz5_yes _ _ _ _ _ _ _ (by omega)).mono ?_
  rintro e w' ⟨rfl, rfl⟩
  go_wp2_with fail
  refine (build_any f h n b0 o0 c0 b1 o1 c1 _ hn hb0 hb1 H0.out H1.out).mono ?_
  rintro e w1 ⟨ao, cap, rfl, ho, hb⟩
  obtain ⟨g, cap2, hv⟩ := Joins.ownsRow_form ho hp
  cases hv
  have HO := hide_own ho
  clear ho
  go_wp2_with fail
  refine (are_some f h n g cap b0 o0 c0 b1 o1 c1 _ hn (fun k hk => own_at HO.out k hk) (fun i hi => old_cell (H0.out i hi) hb0 hb) (fun i hi => old_cell (H1.out i hi) hb1 hb)).mono ?_
  rintro e w2 ⟨rfl, q, rfl⟩
  go_wp2_with fail
  go_ret
  exact ⟨rfl, below_drewN hb _⟩
end Go.Proofs.Qxb6609109a
