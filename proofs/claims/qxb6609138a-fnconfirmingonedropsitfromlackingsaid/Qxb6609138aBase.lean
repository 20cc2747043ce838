/-
  Slices of strings as they came in; the tests on lengths.
-/
import Derived.Test.Qxb6609138aProg
import Derived.WalkKit
import Derived.OwnWalk
import Derived.Below
import Derived.WalkSmall
import Derived.Lib.AtoiErrMem
namespace Go.Proofs.Qxb6609138a
open Go.RowKit

/-- What the walks are told of a slice of strings that came in: it has no element, or leads to a row of these strings. -/
def StrRow (w : World) (a : Option Addr) (L : List ByteArray) : Prop :=
  L = [] ∨ ∃ b o, a = some ⟨b, o, none⟩ ∧ b < w.heap.size ∧ ∀ i (h : i < L.length), w.cell? ⟨b, o + i, none⟩ = some (.string L[i])

theorem StrRow.at {w : World} {a : Option Addr} {L : List ByteArray} (h : StrRow w a L) (k : Nat) (hk : k < L.length) :
    ∃ b o, a = some ⟨b, o, none⟩ ∧ b < w.heap.size ∧ w.cell? ⟨b, o + k, none⟩ = some (.string L[k]) := by
  rcases h with rfl | ⟨b, o, h1, h2, h3⟩
  · simp at hk
  · exact ⟨b, o, h1, h2, h3 k hk⟩
theorem StrRow.below {w w1 : World} {a : Option Addr} {L : List ByteArray} (h : StrRow w a L) (hb : Below w.heap.size w w1) : StrRow w1 a L := by
  rcases h with h | ⟨b, o, h1, h2, h3⟩
  · exact .inl h
  · exact .inr ⟨b, o, h1, Nat.lt_of_lt_of_le h2 hb.size, fun i hi => by rw [hb.cell (p := ⟨b, o + i, none⟩) h2]; exact h3 i hi⟩

set_option maxHeartbeats 400000 in
theorem add_any (t n : Int) (w : World) (h0 : 0 ≤ t) (h1 : 0 ≤ n) :
    Calls Try.prog 20 #[.int .i64 t, .int .i64 n] w fun e w' => ∃ r : Int, e = .returned (.int .i64 r) ∧ 0 ≤ r ∧ w' = w := by
  by_cases ht : 1048576 < t
  · go_enter Try.func20, Try.ntmps20
    go_wp2
    go_ret
    exact ⟨_, rfl, by omega, rfl⟩
  · by_cases hn : 1048576 < n
    · go_enter Try.func20, Try.ntmps20
      go_wp2
      go_ret
      exact ⟨_, rfl, by omega, rfl⟩
    · go_enter Try.func20, Try.ntmps20
      go_wp2
      go_ret
      exact ⟨_, rfl, by omega, rfl⟩

set_option maxHeartbeats 400000 in
theorem strings_any (t : Int) (a : Option Addr) (c : Nat) (L : List ByteArray) (w : World) (h0 : 0 ≤ t) (hr : StrRow w a L) (hL : L.length ≤ 1048576) :
    Calls Try.prog 22 #[.int .i64 t, .slice a L.length c] w fun e w' => ∃ r : Int, e = .returned (.int .i64 r) ∧ 0 ≤ r ∧ w' = w := by
  have HR : Hid (StrRow w a L) := hr
  clear hr
  go_enter Try.func22, Try.ntmps22
  go_wp2
  go_loop [0, 5] (fun v i => ∃ (k : Nat) (z : Int), k ≤ L.length ∧ 0 ≤ z ∧ i = .int .i64 k ∧ v = .int .i64 z) (fun _ i => L.length - (intOf i).toNat)
  case atStart => exact ⟨0, t, Nat.zero_le _, h0, rfl, rfl⟩
  case round =>
    obtain ⟨k, z, hk, hz, rfl, rfl⟩ := hrel
    by_cases hlt : k < L.length
    · by_cases hz2 : z ≤ 1048576
      · obtain ⟨b, o, rfl, hb, hc⟩ := HR.out.at k hlt
        go_wp2_with fail
        refine (add_any z 16 _ hz (by omega)).mono ?_
        rintro e w' ⟨r, rfl, hr, rfl⟩
        go_wp2_with fail
        refine (add_any r _ _ hr (by omega)).mono ?_
        rintro e w' ⟨r2, rfl, hr2, rfl⟩
        go_wp2_with fail
        go_round
        case rel => exact ⟨k + 1, r2, by omega, hr2, by go_num, rfl⟩
        case measure => simp [intOf]; omega
      · go_wp2
        go_ret
        exact ⟨z, rfl, hz, rfl⟩
    · go_wp2
      go_ret
      exact ⟨z, rfl, hz, rfl⟩

set_option maxHeartbeats 400000 in
theorem share_any (a0 a1 a2 : Option Addr) (c0 c1 c2 : Nat) (L0 L1 L2 : List ByteArray) (x : ByteArray) (w : World) (h0 : StrRow w a0 L0) (h1 : StrRow w a1 L1) (h2 : StrRow w a2 L2)
    (hL0 : L0.length ≤ 1048576) (hL1 : L1.length ≤ 1048576) (hL2 : L2.length ≤ 1048576) :
    Calls Try.prog 12 #[.slice a0 L0.length c0, .slice a1 L1.length c1, .slice a2 L2.length c2, .string x] w fun e w' => ∃ r : Int, e = .returned (.int .i64 r) ∧ w' = w := by
  go_enter Try.func12, Try.ntmps12
  go_wp2_with fail
  refine (add_any 0 _ _ (by omega) (by omega)).mono ?_
  rintro e w' ⟨r, rfl, hr, rfl⟩
  go_wp2_with fail
  refine (strings_any r a0 c0 L0 _ hr h0 hL0).mono ?_
  rintro e w' ⟨r1, rfl, hr1, rfl⟩
  go_wp2_with fail
  refine (strings_any r1 a1 c1 L1 _ hr1 h1 hL1).mono ?_
  rintro e w' ⟨r2, rfl, hr2, rfl⟩
  go_wp2_with fail
  refine (strings_any r2 a2 c2 L2 _ hr2 h2 hL2).mono ?_
  rintro e w' ⟨r3, rfl, hr3, rfl⟩
  go_wp2_with fail
  go_ret
  exact ⟨_, rfl, rfl⟩
end Go.Proofs.Qxb6609138a
