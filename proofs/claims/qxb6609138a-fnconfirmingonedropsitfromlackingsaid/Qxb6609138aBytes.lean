/-
  The bounds on the total length, laid by program in the laws' text.
-/
import Derived.Test.Qxb6609138aBase
namespace Go.Proofs.Qxb6609138a
open Go.RowKit

/-- A bool; true only where n is at most 2^20. -/
def Small (n : Nat) (e : Ending) : Prop := ∃ bb, e = .returned (.bool bb) ∧ (bb = true → n ≤ 1048576)
theorem small_no {n : Nat} : Small n (.returned (.bool false)) := ⟨_, rfl, fun h => by cases h⟩
theorem small_yes {n : Nat} (h : n ≤ 1048576) : Small n (.returned (.bool true)) := ⟨_, rfl, fun _ => h⟩

set_option maxRecDepth 100000 in
set_option maxHeartbeats 1000000 in
theorem bytes11  (a0 a1 a2 : Option Addr) (c0 c1 c2 : Nat) (L0 L1 L2 : List ByteArray) (w : World) (h0 : StrRow w a0 L0) (h1 : StrRow w a1 L1) (h2 : StrRow w a2 L2) :
    Calls Try.prog 11 #[.slice a0 L0.length c0, .slice a1 L1.length c1, .slice a2 L2.length c2] w fun e w' => Small (L0.length + L1.length + L2.length) e ∧ w' = w := by
  have HR0 : Hid (StrRow w a0 L0) := h0
  have HR1 : Hid (StrRow w a1 L1) := h1
  have HR2 : Hid (StrRow w a2 L2) := h2
  clear h0 h1 h2
  by_cases hl0 : 1048576 < L0.length
  · go_enter Try.func11, Try.ntmps11
    go_wp2
    go_ret
    exact ⟨small_no, rfl⟩
  go_enter Try.func11, Try.ntmps11
  go_wp2
  go_loop [7, 8] (fun v i => ∃ (k : Nat) (z : Int), k ≤ L0.length ∧ (L0.length : Int) ≤ z ∧ z ≤ 1048576 ∧ i = .int .i64 k ∧ v = .int .i64 z) (fun _ i => L0.length - (intOf i).toNat)
  case atStart => exact ⟨0, _, Nat.zero_le _, by omega, by omega, rfl, rfl⟩
  case round =>
    obtain ⟨k0, z0, hk0, hz0, hy0, rfl, rfl⟩ := hrel
    by_cases hlt0 : k0 < L0.length
    · obtain ⟨b, o, rfl, hb, hc⟩ := HR0.out.at k0 hlt0
      by_cases hs : 1048576 < L0[k0].size
      · go_wp2
        go_ret
        exact ⟨small_no, rfl⟩
      · by_cases hs2 : 1048576 < z0 + (L0[k0].size : Int)
        · go_wp2
          go_ret
          exact ⟨small_no, rfl⟩
        · go_wp2
          go_round
          case rel => exact ⟨k0 + 1, _, by omega, by omega, by omega, by go_num, rfl⟩
          case measure => simp [intOf]; omega
    · by_cases hl1 : 1048576 < L1.length
      · go_wp2
        go_ret
        exact ⟨small_no, rfl⟩
      by_cases hm1 : 1048576 < z0 + (L1.length : Int)
      · go_wp2
        go_ret
        exact ⟨small_no, rfl⟩
      go_wp2
      go_loop [7, 9] (fun v i => ∃ (k : Nat) (z : Int), k ≤ L1.length ∧ (L0.length + L1.length : Int) ≤ z ∧ z ≤ 1048576 ∧ i = .int .i64 k ∧ v = .int .i64 z) (fun _ i => L1.length - (intOf i).toNat)
      case atStart => exact ⟨0, _, Nat.zero_le _, by omega, by omega, rfl, rfl⟩
      case round =>
        obtain ⟨k1, z1, hk1, hz1, hy1, rfl, rfl⟩ := hrel
        by_cases hlt1 : k1 < L1.length
        · obtain ⟨b, o, rfl, hb, hc⟩ := HR1.out.at k1 hlt1
          by_cases hs : 1048576 < L1[k1].size
          · go_wp2
            go_ret
            exact ⟨small_no, rfl⟩
          · by_cases hs2 : 1048576 < z1 + (L1[k1].size : Int)
            · go_wp2
              go_ret
              exact ⟨small_no, rfl⟩
            · go_wp2
              go_round
              case rel => exact ⟨k1 + 1, _, by omega, by omega, by omega, by go_num, rfl⟩
              case measure => simp [intOf]; omega
        · by_cases hl2 : 1048576 < L2.length
          · go_wp2
            go_ret
            exact ⟨small_no, rfl⟩
          by_cases hm2 : 1048576 < z1 + (L2.length : Int)
          · go_wp2
            go_ret
            exact ⟨small_no, rfl⟩
          go_wp2
          go_loop [7, 10] (fun v i => ∃ (k : Nat) (z : Int), k ≤ L2.length ∧ (L0.length + L1.length + L2.length : Int) ≤ z ∧ z ≤ 1048576 ∧ i = .int .i64 k ∧ v = .int .i64 z) (fun _ i => L2.length - (intOf i).toNat)
          case atStart => exact ⟨0, _, Nat.zero_le _, by omega, by omega, rfl, rfl⟩
          case round =>
            obtain ⟨k2, z2, hk2, hz2, hy2, rfl, rfl⟩ := hrel
            by_cases hlt2 : k2 < L2.length
            · obtain ⟨b, o, rfl, hb, hc⟩ := HR2.out.at k2 hlt2
              by_cases hs : 1048576 < L2[k2].size
              · go_wp2
                go_ret
                exact ⟨small_no, rfl⟩
              · by_cases hs2 : 1048576 < z2 + (L2[k2].size : Int)
                · go_wp2
                  go_ret
                  exact ⟨small_no, rfl⟩
                · go_wp2
                  go_round
                  case rel => exact ⟨k2 + 1, _, by omega, by omega, by omega, by go_num, rfl⟩
                  case measure => simp [intOf]; omega
            · go_wp2
              go_ret
              exact ⟨small_yes (by omega), rfl⟩

set_option maxRecDepth 100000 in
set_option maxHeartbeats 1000000 in
theorem bytes19 (x : ByteArray) (a0 a1 a2 : Option Addr) (c0 c1 c2 : Nat) (L0 L1 L2 : List ByteArray) (w : World) (h0 : StrRow w a0 L0) (h1 : StrRow w a1 L1) (h2 : StrRow w a2 L2) :
    Calls Try.prog 19 #[.slice a0 L0.length c0, .slice a1 L1.length c1, .slice a2 L2.length c2, .string x] w fun e w' => Small (L0.length + L1.length + L2.length) e ∧ w' = w := by
  have HR0 : Hid (StrRow w a0 L0) := h0
  have HR1 : Hid (StrRow w a1 L1) := h1
  have HR2 : Hid (StrRow w a2 L2) := h2
  clear h0 h1 h2
  by_cases hl0 : 1048576 < L0.length
  · go_enter Try.func19, Try.ntmps19
    go_wp2
    go_ret
    exact ⟨small_no, rfl⟩
  go_enter Try.func19, Try.ntmps19
  go_wp2
  go_loop [9, 10] (fun v i => ∃ (k : Nat) (z : Int), k ≤ L0.length ∧ (L0.length : Int) ≤ z ∧ z ≤ 1048576 ∧ i = .int .i64 k ∧ v = .int .i64 z) (fun _ i => L0.length - (intOf i).toNat)
  case atStart => exact ⟨0, _, Nat.zero_le _, by omega, by omega, rfl, rfl⟩
  case round =>
    obtain ⟨k0, z0, hk0, hz0, hy0, rfl, rfl⟩ := hrel
    by_cases hlt0 : k0 < L0.length
    · obtain ⟨b, o, rfl, hb, hc⟩ := HR0.out.at k0 hlt0
      by_cases hs : 1048576 < L0[k0].size
      · go_wp2
        go_ret
        exact ⟨small_no, rfl⟩
      · by_cases hs2 : 1048576 < z0 + (L0[k0].size : Int)
        · go_wp2
          go_ret
          exact ⟨small_no, rfl⟩
        · go_wp2
          go_round
          case rel => exact ⟨k0 + 1, _, by omega, by omega, by omega, by go_num, rfl⟩
          case measure => simp [intOf]; omega
    · by_cases hl1 : 1048576 < L1.length
      · go_wp2
        go_ret
        exact ⟨small_no, rfl⟩
      by_cases hm1 : 1048576 < z0 + (L1.length : Int)
      · go_wp2
        go_ret
        exact ⟨small_no, rfl⟩
      go_wp2
      go_loop [9, 11] (fun v i => ∃ (k : Nat) (z : Int), k ≤ L1.length ∧ (L0.length + L1.length : Int) ≤ z ∧ z ≤ 1048576 ∧ i = .int .i64 k ∧ v = .int .i64 z) (fun _ i => L1.length - (intOf i).toNat)
      case atStart => exact ⟨0, _, Nat.zero_le _, by omega, by omega, rfl, rfl⟩
      case round =>
        obtain ⟨k1, z1, hk1, hz1, hy1, rfl, rfl⟩ := hrel
        by_cases hlt1 : k1 < L1.length
        · obtain ⟨b, o, rfl, hb, hc⟩ := HR1.out.at k1 hlt1
          by_cases hs : 1048576 < L1[k1].size
          · go_wp2
            go_ret
            exact ⟨small_no, rfl⟩
          · by_cases hs2 : 1048576 < z1 + (L1[k1].size : Int)
            · go_wp2
              go_ret
              exact ⟨small_no, rfl⟩
            · go_wp2
              go_round
              case rel => exact ⟨k1 + 1, _, by omega, by omega, by omega, by go_num, rfl⟩
              case measure => simp [intOf]; omega
        · by_cases hl2 : 1048576 < L2.length
          · go_wp2
            go_ret
            exact ⟨small_no, rfl⟩
          by_cases hm2 : 1048576 < z1 + (L2.length : Int)
          · go_wp2
            go_ret
            exact ⟨small_no, rfl⟩
          go_wp2
          go_loop [9, 12] (fun v i => ∃ (k : Nat) (z : Int), k ≤ L2.length ∧ (L0.length + L1.length + L2.length : Int) ≤ z ∧ z ≤ 1048576 ∧ i = .int .i64 k ∧ v = .int .i64 z) (fun _ i => L2.length - (intOf i).toNat)
          case atStart => exact ⟨0, _, Nat.zero_le _, by omega, by omega, rfl, rfl⟩
          case round =>
            obtain ⟨k2, z2, hk2, hz2, hy2, rfl, rfl⟩ := hrel
            by_cases hlt2 : k2 < L2.length
            · obtain ⟨b, o, rfl, hb, hc⟩ := HR2.out.at k2 hlt2
              by_cases hs : 1048576 < L2[k2].size
              · go_wp2
                go_ret
                exact ⟨small_no, rfl⟩
              · by_cases hs2 : 1048576 < z2 + (L2[k2].size : Int)
                · go_wp2
                  go_ret
                  exact ⟨small_no, rfl⟩
                · go_wp2
                  go_round
                  case rel => exact ⟨k2 + 1, _, by omega, by omega, by omega, by go_num, rfl⟩
                  case measure => simp [intOf]; omega
            · by_cases hx : 1048576 < x.size
              · go_wp2
                go_ret
                exact ⟨small_no, rfl⟩
              by_cases hx2 : 1048576 < z2 + (x.size : Int)
              · go_wp2
                go_ret
                exact ⟨small_no, rfl⟩
              go_wp2
              go_ret
              exact ⟨small_yes (by omega), rfl⟩
end Go.Proofs.Qxb6609138a
