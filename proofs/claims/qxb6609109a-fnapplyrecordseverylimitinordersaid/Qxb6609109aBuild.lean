/-
  ZZapplyTo, buildLimits.
-/
import Derived.Test.Qxb6609109aApply
namespace Go.Proofs.Qxb6609109a
open Go.RowKit

theorem last_block (w : World) (o1 : Obj) (cs : Array Value) (t : TypeId) : ((w.alloc o1).alloc (.cells cs t)).heap[w.heap.size + 1]? = some (.cells cs t (0, 0)) := by
  show ((w.heap.push o1).push (.cells cs t))[w.heap.size + 1]? = _
  have h : (w.heap.push o1).size = w.heap.size + 1 := Array.size_push _
  rw [← h]
  exact Array.getElem?_push_size

set_option maxHeartbeats 400000 in
theorem applyTo_any (c p : Int) (base n cap : Nat) (ao : Option Addr) (xs : List Value) (w : World)
    (hown : w.ownsRow base 32 2 (.slice ao n cap) n xs) (hbase : base ≤ w.heap.size) (hn : n ≤ 4096) :
    Calls Try.prog 9 #[.slice ao n cap, .agg #[.int .i64 c, .int .i64 p]] w fun e w' => ∃ g cap', e = .returned (.slice (some ⟨g, 0, none⟩) (n + 1) cap') ∧ w'.ownsRow base 32 2 (.slice (some ⟨g, 0, none⟩) (n + 1) cap') (n + 1) (xs ++ [.int .i64 c, .int .i64 p]) ∧ Below base w w' := by
  have HO : Hid (∀ o1 o2, ((w.alloc o1).alloc o2).ownsRow base 32 2 (.slice ao n cap) n xs) := fun o1 o2 => (hown.alloc o1).alloc o2
  clear hown
  go_enter Try.func9, Try.ntmps9
  go_wp2_with fail
  refine (apply_any c p (w.heap.size + 1) base n cap ao xs _ _ (last_block _ _ _ _) (by simp) (HO.out _ _) (by omega) hn).mono ?_
  rintro e w1 ⟨rfl, g, cap1, hc, ho, hb⟩
  have HO1 := hide_own ho
  clear ho
  go_wp2
  go_ret
  exact ⟨g, cap1, rfl, HO1.out, (((Below.refl _ _).alloc hbase _).alloc (by simp; omega) _).trans hb⟩

/-- The cells of the first k limits. -/
def flat (f g : Nat → Int) : Nat → List Value
  | 0 => []
  | k + 1 => flat f g k ++ [.int .i64 (f k), .int .i64 (g k)]

theorem old_cell {w wr : World} {b o : Nat} {x : Value} (h : w.cell? ⟨b, o, none⟩ = some x) (hb : b < w.heap.size) (hB : Below w.heap.size w wr) : wr.cell? ⟨b, o, none⟩ = some x := by
  rw [hB.cell (p := ⟨b, o, none⟩) hb]; exact h

theorem round_below {B : Nat} {w wr w3 : World} {o : Obj} (h : Below B w wr) (h3 : Below B (wr.alloc o).drew w3) (hB : B ≤ w.heap.size := by exact Nat.le_refl _) : Hid (Below B w w3) :=
  h.trans (((Below.refl _ _).alloc (by have := h.size; omega) o).drew.trans h3)

set_option maxHeartbeats 1000000 in
theorem build_any (f g : Nat → Int) (n b0 o0 c0 b1 o1 c1 : Nat) (w : World) (hn : n ≤ 4096) (hb0 : b0 < w.heap.size) (hb1 : b1 < w.heap.size)
    (h0 : ∀ i, i < n → w.cell? ⟨b0, o0 + i, none⟩ = some (.int .i64 (f i))) (h1 : ∀ i, i < n → w.cell? ⟨b1, o1 + i, none⟩ = some (.int .i64 (g i))) :
    Calls Try.prog 7 #[.slice (some ⟨b0, o0, none⟩) n c0, .slice (some ⟨b1, o1, none⟩) n c1] w fun e w' => ∃ ao cap, e = .returned (.slice ao n cap) ∧ w'.ownsRow w.heap.size 32 2 (.slice ao n cap) n (flat f g n) ∧ Below w.heap.size w w' := by
  have H0 : Hid (∀ i, i < n → w.cell? ⟨b0, o0 + i, none⟩ = some (.int .i64 (f i))) := h0
  have H1 : Hid (∀ i, i < n → w.cell? ⟨b1, o1 + i, none⟩ = some (.int .i64 (g i))) := h1
  clear h0 h1
  go_enter Try.func7, Try.ntmps7
  go_wp2
  go_loopw [5, 6] (fun v i wr => ∃ (k cap : Nat) (ao : Option Addr), k ≤ n ∧ i = .int .i64 k ∧ v = .slice ao k cap ∧ Hid (wr.ownsRow w.heap.size 32 2 (.slice ao k cap) k (flat f g k)) ∧ Hid (Below w.heap.size w wr)) (fun _ i _ => n - (intOf i).toNat)
  case atStart => exact ⟨0, 0, none, Nat.zero_le _, rfl, rfl, World.ownsRow_nil _ _ _ _, Below.refl _ _⟩
  case round =>
    obtain ⟨k, cap, ao, hk, rfl, rfl, HO, HB⟩ := hrel
    by_cases hlt : k < n
    · have hx0 := old_cell (H0.out k hlt) hb0 HB.out
      have hx1 := old_cell (H1.out k hlt) hb1 HB.out
      have HO2 : Hid (∀ o, (wr.alloc o).ownsRow w.heap.size 32 2 (.slice ao k cap) k (flat f g k)) := fun o => HO.out.alloc o
      have hsz : w.heap.size ≤ wr.heap.size := HB.out.size
      go_wp2
      go_region_with (first
        | (go_at_call 10; refine (zzlimit_any _ _ _).mono ?_; rintro e w2 ⟨rfl, rfl⟩)
        | (go_at_call 9; refine (applyTo_any _ _ w.heap.size k cap ao (flat f g k) _ (by exact HO2.out _) (by simp; omega) (by omega)).mono ?_; rintro e w3 ⟨g3, cap3, rfl, ho3, hb3⟩; have HO3 := hide_own ho3; clear ho3))
      all_goals
        have HB3 := round_below HB.out hb3
        clear hb3
        go_wp2
        go_roundw
        case rel => exact ⟨k + 1, cap3, some ⟨g3, 0, none⟩, by omega, by go_num, rfl, HO3, HB3⟩
        case measure => simp [intOf]; omega
    · go_wp2
      go_ret
      obtain rfl : k = n := by omega
      exact ⟨ao, cap, rfl, HO.out, HB.out⟩
end Go.Proofs.Qxb6609109a
