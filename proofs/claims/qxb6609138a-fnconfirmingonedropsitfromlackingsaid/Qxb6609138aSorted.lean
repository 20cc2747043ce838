/-
  FnLackingIsSortedUnconfirmedNames: the walk.
-/
import Derived.Test.Qxb6609138aFin
import Derived.Deep.QuietTactic
import Derived.BigQuiet
namespace Go.Proofs.Qxb6609138a
open Go.RowKit
open Go.Maps Go.Sort
open Plain

theorem hideB {B : Nat} {w w1 : World} (h : Below B w w1) : Hid (Below B w w1) := h
theorem hideS {w : World} {b n : Nat} {L : List ByteArray} (h : IsSet w b n L) : Hid (IsSet w b n L) := h
theorem hideR {w : World} {a : Option Addr} {L : List ByteArray} (h : StrRow w a L) : Hid (StrRow w a L) := h
theorem hideP {w : World} {B k : Nat} {L0 L1 : List ByteArray} (h : IsPart w B k L0 L1) : Hid (IsPart w B k L0 L1) := h
theorem below_alloc (w : World) (o : Obj) : Below w.heap.size w (w.alloc o) := (Below.refl _ _).alloc (Nat.le_refl _) _
theorem parts_two (a0 a1 : Option Addr) (c0 c1 : Nat) (L0 L1 : List ByteArray) (w : World) (h0 : StrRow w a0 L0) (h1 : StrRow w a1 L1) (hs0 : ∀ s ∈ L0, s.size ≤ maxLen) (hn1 : L0.length = L1.length) (hn : L0.length ≤ 1048576) :
    Calls Try.prog 17 #[.slice a0 L0.length c0, .slice a1 L1.length c1] w fun e w' => e = .returned (.map (some w.heap.size)) ∧ IsPart w' w.heap.size L0.length L0 L1 ∧ w'.heap.size = w.heap.size + 1 + L0.length ∧ Below w.heap.size w w' := by
  rw [← hn1]
  exact parts_any a0 a1 c0 c1 L0.length L0 L1 w h0 h1 hs0 rfl hn1.symm hn
/-- The share as it stands behind its making. -/
theorem share_two (pm cb : Nat) (w : World) : (w.alloc (shObj pm cb)).cell? ⟨w.heap.size, 4, none⟩ = some (.map (some pm)) ∧ (w.alloc (shObj pm cb)).cell? ⟨w.heap.size, 9, none⟩ = some (.map (some cb)) := by
  constructor <;> simp
/-- ZZnewShare(parts, confirmed).lacking(), the set of the confirmed and the map of partners laid before. -/
theorem lackC (pm cb nc : Nat) (L0 L1 C : List ByteArray) (w : World)
    (hm : IsSet w cb nc C) (hp : IsPart w pm L0.length L0 L1) (hn1 : L0.length = L1.length) (hn : L0.length ≤ 1048576) (hd0 : (L0.map by8).Nodup) (hs1 : ∀ s ∈ L1, s.size ≤ maxLen) (hpb : pm + L0.length < w.heap.size) :
    Calls Try.prog 15 #[.pointer (some ⟨w.heap.size, 0, none⟩)] (w.alloc (shObj pm cb)) fun e w' => ∃ ao cap, e = .returned (.slice ao (fin C L1).length cap) ∧ StrRow w' ao (fin C L1) ∧ Below w.heap.size w w' := by
  refine (lackB pm cb nc w.heap.size L0 L1 C _ (share_two pm cb w).1 (share_two pm cb w).2 (hm.below (below_alloc w _) (World.ownsMap.lt hm)) (hp.below (below_alloc w _) hpb) hn1.symm hn hd0 hs1 (by simp; omega)).mono ?_
  rintro e w' ⟨ao, cap, h1, h2, h3⟩
  exact ⟨ao, cap, h1, h2, (below_alloc w _).trans (h3.mono (by simp))⟩
theorem count_two (a : Option Addr) (c b n : Nat) (C L : List ByteArray) (w : World) (hr : StrRow w a L) (hs : ∀ s ∈ L, s.size ≤ maxLen) (hL : L.length ≤ 1048576) (hm : IsSet w b n C) :
    Calls Try.prog 18 #[.slice a L.length c, .map (some b)] w fun e w' => e = .returned (.int .i64 (fin C L).length) ∧ w' = w := by
  rw [fin_length]
  exact count_any a c b n C L w hr hs hL hm
theorem fin_small (C L : List ByteArray) : (fin C L).length ≤ L.length := by
  rw [fin_length]; exact List.length_filter_le _ _

set_option maxRecDepth 100000 in
set_option maxHeartbeats 2000000 in
theorem law4 (a0 a1 a2 : Option Addr) (c0 c1 c2 : Nat) (L0 L1 C : List ByteArray) (w : World) (h0 : StrRow w a0 L0) (h1 : StrRow w a1 L1) (h2 : StrRow w a2 C)
    (hs0 : ∀ s ∈ L0, s.size ≤ maxLen) (hs1 : ∀ s ∈ L1, s.size ≤ maxLen) (hs2 : ∀ s ∈ C, s.size ≤ maxLen) :
    Calls Try.prog 4 #[.slice a0 L0.length c0, .slice a1 L1.length c1, .slice a2 C.length c2] w fun e w' => e = .returned (.bool true) ∧ Below w.heap.size w w' := by
  have HR0 := hideR h0
  have HR1 := hideR h1
  have HR2 := hideR h2
  have HS0 : Hid (∀ s ∈ L0, s.size ≤ maxLen) := hs0
  have HS1 : Hid (∀ s ∈ L1, s.size ≤ maxLen) := hs1
  have HS2 : Hid (∀ s ∈ C, s.size ≤ maxLen) := hs2
  clear h0 h1 h2 hs0 hs1 hs2
  go_enter Try.func4, Try.ntmps4
  go_wp2_with fail
  refine (bytes11 a0 a1 a2 c0 c1 c2 L0 L1 C w HR0.out HR1.out HR2.out).mono ?_
  rintro e w' ⟨⟨bb, rfl, hbb⟩, rfl⟩
  cases bb
  · clear hbb
    go_wp2_with fail
    go_ret
    exact ⟨rfl, Below.refl _ _⟩
  have hsum := hbb rfl
  clear hbb
  have HSUM : Hid (L0.length + L1.length + C.length ≤ 1048576) := hsum
  clear hsum
  go_wp2_with fail
  refine (share_any a0 a1 a2 c0 c1 c2 L0 L1 C _ w' HR0.out HR1.out HR2.out (by have := HSUM.out; omega) (by have := HSUM.out; omega) (by have := HSUM.out; omega)).mono ?_
  rintro e w ⟨r, rfl, rfl⟩
  by_cases hr : 1048576 < r
  · go_wp2_with fail
    go_ret
    exact ⟨rfl, Below.refl _ _⟩
  go_wp2_with fail
  refine (pairs_any a0 a1 c0 c1 L0 L1 w HR0.out HR1.out HS0.out HS1.out (by have := HSUM.out; omega)).mono ?_
  rintro e w1 ⟨⟨bb, rfl, hbb⟩, hb1⟩
  have HB1 := hideB hb1
  clear hb1 hr
  cases bb
  · clear hbb
    go_wp2_with fail
    go_ret
    exact ⟨rfl, HB1.out⟩
  have HP : Hid (L0.length = L1.length ∧ (L0.map by8).Nodup ∧ (L1.map by8).Nodup) := hbb rfl
  clear hbb
  go_wp2_with fail
  refine (set_any a2 c2 C w1 (HR2.out.below HB1.out) HS2.out (by have := HSUM.out; omega)).mono ?_
  rintro e w2 ⟨rfl, hm2, hb2⟩
  have HM2 := hideS hm2
  have HB2 := hideB hb2
  clear hm2 hb2
  go_wp2_with fail
  refine (set_any a1 c1 L1 w2 ((HR1.out.below HB1.out).below HB2.out) HS1.out (by have := HSUM.out; omega)).mono ?_
  rintro e w3 ⟨rfl, hm3, hb3⟩
  have HM3 := hideS hm3
  have HB3 := hideB hb3
  clear hm3 hb3
  have HB13 := hideB (HB1.out.trans ((HB2.out.trans (HB3.out.mono HB2.out.size)).mono HB1.out.size))
  have HM23 := hideS (HM2.out.below HB3.out (World.ownsMap.lt HM2.out))
  clear HM2
  go_wp2_with fail
  refine (parts_two a0 a1 c0 c1 L0 L1 w3 (HR0.out.below HB13.out) (HR1.out.below HB13.out) HS0.out HP.out.1 (by have := HSUM.out; omega)).mono ?_
  rintro e w4 ⟨rfl, hp4, hz4, hb4⟩
  have HP4 := hideP hp4
  have HZ4 : Hid (w4.heap.size = w3.heap.size + 1 + L0.length) := hz4
  have HB14 := hideB (HB13.out.trans (hb4.mono HB13.out.size))
  have HM24 := hideS (HM23.out.below hb4 (World.ownsMap.lt HM23.out))
  have HM34 := hideS (HM3.out.below hb4 (World.ownsMap.lt HM3.out))
  clear hp4 hz4 hb4 HM23 HM3 HB13 HB1 HB2 HB3
  go_wp2_with fail
  refine (share16 w3.heap.size w1.heap.size w4).mono ?_
  rintro e w5 ⟨rfl, rfl⟩
  go_wp2_with fail
  refine (lackC w3.heap.size w1.heap.size C.length L0 L1 C w4 HM24.out HP4.out HP.out.1 (by have := HSUM.out; omega) HP.out.2.1 HS1.out (by have := HZ4.out; omega)).mono ?_
  rintro e w6 ⟨ao, cap, rfl, hr6, hb6⟩
  have HR6 := hideR hr6
  have HB16 := hideB (HB14.out.trans (hb6.mono HB14.out.size))
  have HM26 := hideS (HM24.out.below hb6 (World.ownsMap.lt HM24.out))
  have HM36 := hideS (HM34.out.below hb6 (World.ownsMap.lt HM34.out))
  have hfl : (fin C L1).length ≤ 1048576 := by have := fin_small C L1; have := HSUM.out; omega
  clear hr6 hb6 HM24 HM34 HB14 HZ4 HP4
  go_wp2_with fail
  refine (count_two a1 c1 w1.heap.size C.length C L1 w6 (HR1.out.below HB16.out) HS1.out (by have := HSUM.out; omega) HM26.out).mono ?_
  rintro e w7 ⟨rfl, rfl⟩
  have HF1 : Hid (∀ s ∈ fin C L1, isIn L1 s = true ∧ isIn C s = false ∧ s ∈ L1) := fun s hs => fin_mem hs
  have HF2 : Hid (∀ (i j : Nat) (hij : i < j) (hj : j < (fin C L1).length), Op.bytesLess ((fin C L1)[i]'(Nat.lt_trans hij hj)).toList ((fin C L1)[j]).toList = true) := fun i j hij hj => fin_less HP.out.2.2 i j hij hj
  generalize fin C L1 = F at HR6 hfl HF1 HF2 ⊢
  go_wp2_with fail
  go_loopw [10] (fun i wr => ∃ k q : Nat, k ≤ F.length ∧ i = .int .i64 k ∧ wr = w7.drewN q) (fun i _ => F.length - (intOf i).toNat)
  case atStart => exact ⟨0, 0, Nat.zero_le _, rfl, rfl⟩
  case round =>
    obtain ⟨k, q, hk, rfl, rfl⟩ := hrel
    by_cases hlt : k < F.length
    · obtain ⟨hi1, hi2, hi3⟩ := HF1.out F[k] (List.getElem_mem hlt)
      have hq1 := (HM36.out.drewN q).look F[k] (HS1.out _ hi3)
      have hq2 := (HM26.out.drewN q).look F[k] (HS1.out _ hi3)
      rw [hi1] at hq1
      rw [hi2] at hq2
      clear hi1 hi2 hi3
      obtain ⟨g, o, rfl, hg, hc⟩ := HR6.out.at k hlt
      rcases Nat.eq_zero_or_pos k with hz | hz
      · have hd : decide ((0 : Int) < (k : Int)) = false := decide_eq_false (by omega)
        have hd2 : decide (0 < k) = false := decide_eq_false (by omega)
        have hd3 : ¬ (0 : Int) < (k : Int) := by omega
        clear hz
        go_wp2_with fail
        go_quiet (fail)
        go_wp2_with fail
        go_roundw
        case rel => exact ⟨k + 1, _, by omega, by go_num, rfl⟩
        case measure => simp [intOf]; omega
      · obtain ⟨g', o', hgo, _, hc2⟩ := HR6.out.at (k - 1) (by omega)
        injection hgo with hgo
        injection hgo with e1 e2
        subst e1; subst e2
        have hless := HF2.out (k - 1) k (by omega) hlt
        have hi0 : (0 : Int) < (k : Int) := by omega
        have hi1 : (k : Int) - 1 < (F.length : Int) := by omega
        have hi2 : (0 : Int) ≤ (k : Int) - 1 := by omega
        go_wp2_with fail
        go_quiet (fail)
        go_wp2_with fail
        go_roundw
        case rel => exact ⟨k + 1, _, by omega, by go_num, rfl⟩
        case measure => simp [intOf]; omega
    · go_wp2_with fail
      go_ret
      exact ⟨rfl, below_drewN HB16.out q⟩
end Go.Proofs.Qxb6609138a
