/-
  ZZnewPartner, ZZnewShare, zzPartners: the map of partners that the call makes.
-/
import Derived.Test.Qxb6609138aPairs
import Derived.Deep.RegionWith
import Derived.Maps.OwnSet
namespace Go.Proofs.Qxb6609138a
open Go.RowKit
open Go.Maps

abbrev pObj (s : ByteArray) : Obj := .cells #[.string s, .map none, .int .u64 0, .slice none 0 0, .map none, .map none, .int .u64 0, .slice none 0 0, .chan none, .pointer none] 71
abbrev shObj (p q : Nat) : Obj := .cells #[.pointer none, .string ⟨#[]⟩, .string ⟨#[]⟩, .int .i64 0, .map (some p), .pointer none, .pointer none, .int .i64 0, .int .i64 0, .map (some q), .string ⟨#[]⟩, .int .i64 0, .bool false, .map none, .int .u64 0, .int .i64 0, .pointer none] 61

set_option maxHeartbeats 400000 in
theorem partner_any (s : ByteArray) (w : World) :
    Calls Try.prog 24 #[.string s] w fun e w' => e = .returned (.pointer (some ⟨w.heap.size, 0, none⟩)) ∧ w' = w.alloc (pObj s) := by
  go_enter Try.func24, Try.ntmps24
  go_wp2
  go_ret
  exact ⟨rfl, rfl⟩
set_option maxHeartbeats 400000 in
theorem share16 (p q : Nat) (w : World) :
    Calls Try.prog 16 #[.map (some p), .map (some q)] w fun e w' => e = .returned (.pointer (some ⟨w.heap.size, 0, none⟩)) ∧ w' = w.alloc (shObj p q) := by
  go_enter Try.func16, Try.ntmps16
  go_wp2
  go_ret
  exact ⟨rfl, rfl⟩

/-- How a pointer to a whole block is told as an element of a map: by the block's number. -/
def ptrElem (v : Value) : Option (DataW Unit × List MemPlace) :=
  match v with
  | .pointer (some a) => if a = ⟨a.block, 0, none⟩ then some (.lit (.int .i64 a.block), []) else none
  | _ => none
def blockD (b : Nat) : DataW Unit := .lit (.int .i64 b)
theorem ptrElem_mk (b : Nat) : ptrElem (.pointer (some ⟨b, 0, none⟩)) = some (blockD b, []) := by simp [ptrElem, blockD]
theorem ptrElem_inv {v : Value} {z : DataW Unit × List MemPlace} (h : ptrElem v = some z) : ∃ b : Nat, v = .pointer (some ⟨b, 0, none⟩) ∧ z = (blockD b, []) := by
  unfold ptrElem at h
  cases v with
  | pointer o =>
    cases o with
    | none => simp at h
    | some a =>
      simp at h
      exact ⟨a.block, by rw [← h.1], h.2.symm⟩
  | _ => simp at h

/-- The map of the first k partners: item i leads to block B + 1 + i. -/
def partD (B : Nat) (L : List ByteArray) : Nat → DataW Unit
  | 0 => .map []
  | k + 1 => (partD B L k).put (keyL (L.getD k ByteArray.empty)) (blockD (B + 1 + k))
/-- Block B is the map of the first k partners, their names in their blocks. -/
def IsPart (w : World) (B k : Nat) (L0 L1 : List ByteArray) : Prop :=
  w.ownsMap Try.prog 9 ptrElem B k (partD B L0 k) ∧ ∀ i (h : i < L1.length), i < k → w.cell? ⟨B + 1 + i, 0, none⟩ = some (.string L1[i])

theorem part_step {wr w1 : World} {B k : Nat} {L0 L1 : List ByteArray} (hk0 : k < L0.length) (hk1 : k < L1.length) (h : IsPart wr B k L0 L1) (hsz : wr.heap.size = B + 1 + k)
    (ho : w1.ownsMap Try.prog 9 ptrElem B (k + 1) ((partD B L0 k).put (keyL L0[k]) (blockD wr.heap.size))) (hg : (wr.alloc (pObj L1[k])).drew.grownBy w1 (some B)) : IsPart w1 B (k + 1) L0 L1 := by
  have e : L0.getD k ByteArray.empty = L0[k] := by simp [List.getD, hk0]
  refine ⟨?_, ?_⟩
  · show w1.ownsMap Try.prog 9 ptrElem B (k + 1) ((partD B L0 k).put (keyL (L0.getD k ByteArray.empty)) (blockD (B + 1 + k)))
    rw [e, ← hsz]; exact ho
  · intro i hi hik
    have hs2 : (wr.alloc (pObj L1[k])).drew.heap.size = wr.heap.size + 1 := by simp
    rw [World.cell?_of_block (hg.block (B + 1 + i) (by rw [hs2]; omega) (fun e => by have := Option.some.inj e; omega))]
    by_cases hik2 : i < k
    · have h2 : Below wr.heap.size wr (wr.alloc (pObj L1[k])).drew := ((Below.refl _ _).alloc (Nat.le_refl _) _).drew
      rw [h2.cell (p := ⟨B + 1 + i, 0, none⟩) (by show B + 1 + i < wr.heap.size; omega)]
      exact h.2 i hi hik2
    · obtain rfl : i = k := by omega
      rw [← hsz]
      simp

theorem turned_size {w w1 : World} {b : Nat} (h : w.mapTurned w1 b) : w1.heap.size = w.heap.size := by
  obtain ⟨es, cl, es1, cl1, _, rfl⟩ := h
  simp [ChangeMaps.setBlock]

set_option maxRecDepth 100000 in
set_option maxHeartbeats 1000000 in
theorem parts_any (a0 a1 : Option Addr) (c0 c1 n : Nat) (L0 L1 : List ByteArray) (w : World) (h0 : StrRow w a0 L0) (h1 : StrRow w a1 L1) (hs0 : ∀ s ∈ L0, s.size ≤ maxLen)
    (hn0 : L0.length = n) (hn1 : L1.length = n) (hn : n ≤ 1048576) :
    Calls Try.prog 17 #[.slice a0 n c0, .slice a1 n c1] w fun e w' => e = .returned (.map (some w.heap.size)) ∧ IsPart w' w.heap.size n L0 L1 ∧ w'.heap.size = w.heap.size + 1 + n ∧ Below w.heap.size w w' := by
  have HR0 : Hid (StrRow w a0 L0) := h0
  have HR1 : Hid (StrRow w a1 L1) := h1
  have HS0 : Hid (∀ s ∈ L0, s.size ≤ maxLen) := hs0
  have HN0 : Hid (L0.length = n) := hn0
  have HN1 : Hid (L1.length = n) := hn1
  clear h0 h1 hs0 hn0 hn1
  have hmm := fun (k : Int) (W : World) => run_makeHint (P := Try.prog) (t := 43) Try.underlying43 k W
  go_enter Try.func17, Try.ntmps17
  go_wp2
  clear hmm
  go_loopw [6] (fun i wr => ∃ k : Nat, k ≤ n ∧ i = .int .i64 k ∧ Hid (IsPart wr w.heap.size k L0 L1) ∧ Hid (wr.heap.size = w.heap.size + 1 + k) ∧ Hid (Below w.heap.size w wr)) (fun i _ => n - (intOf i).toNat)
  case atStart => exact ⟨0, Nat.zero_le _, rfl, ⟨World.ownsMap_made _ _ _ _, fun i _ h => by omega⟩, by show (w.alloc _).heap.size = _; simp, (Below.refl _ _).alloc (Nat.le_refl _) _⟩
  case round =>
    obtain ⟨k, hk, rfl, HM, HZ, HB⟩ := hrel
    by_cases hlt : k < n
    · have hlt0 : k < L0.length := by rw [HN0.out]; exact hlt
      have hlt1 : k < L1.length := by rw [HN1.out]; exact hlt
      obtain ⟨b0, o0, rfl, hb0, hc0⟩ := HR0.out.at k hlt0
      obtain ⟨b1, o1, rfl, hb1, hc1⟩ := HR1.out.at k hlt1
      have hx0 : wr.cell? ⟨b0, o0 + k, none⟩ = some (.string L0[k]) := by rw [HB.out.cell (p := ⟨b0, o0 + k, none⟩) hb0]; exact hc0
      have hx1 : wr.cell? ⟨b1, o1 + k, none⟩ = some (.string L1[k]) := by rw [HB.out.cell (p := ⟨b1, o1 + k, none⟩) hb1]; exact hc1
      have hbw : b0 < wr.heap.size := Nat.lt_of_lt_of_le hb0 HB.out.size
      obtain ⟨w1, hrun, hown1, hturn1⟩ := ((HM.out.1.alloc (pObj L1[k])).drew).store law Try.underlying43 (by unfold maxLen; omega) (WideMaps.keyOf_string_mk (s := L0[k]) Try.underlying9 (HS0.out _ (List.getElem_mem hlt0))) (ptrElem_mk wr.heap.size)
      have hgrow1 := hturn1.grown
      have HM1 : Hid (IsPart w1 w.heap.size (k + 1) L0 L1) := part_step hlt0 hlt1 HM.out HZ.out hown1 hgrow1
      have HB1 : Hid (Below w.heap.size w w1) := HB.out.trans ((((Below.refl _ _).alloc (by have := HB.out.size; omega) _).drew).grown hgrow1 (by have := HB.out.size; simp; omega) (fun j hj => by cases hj; exact Nat.le_refl _))
      have HZ1 : Hid (w1.heap.size = w.heap.size + 1 + (k + 1)) := by
        show w1.heap.size = w.heap.size + 1 + (k + 1)
        rw [turned_size hturn1]
        have := HZ.out
        simp; omega
      clear hc0 hc1 hown1 hgrow1 hturn1
      go_wp2
      go_region_with (go_at_call 24; refine (partner_any _ _).mono ?_; rintro e w2 ⟨rfl, rfl⟩)
      all_goals
        clear hrun
        go_wp2
        go_roundw
        case rel => exact ⟨k + 1, by omega, by go_num, HM1, HZ1, HB1⟩
        case measure => simp [intOf]; omega
    · go_wp2
      go_ret
      obtain rfl : k = n := by omega
      exact ⟨rfl, HM.out, HZ.out, HB.out⟩
end Go.Proofs.Qxb6609138a
