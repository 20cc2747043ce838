/-
  FnConfirmingOneDropsItFromLacking: the walk.
-/
import Derived.Test.Qxb6609138aSorted
namespace Go.Proofs.Qxb6609138a
open Go.RowKit
open Go.Maps Go.Sort
open Plain

/-- Does s stay when x is confirmed? -/
def stays (x s : ByteArray) : Bool := !(by8 s == by8 x)
theorem stays_self (x : ByteArray) : stays x x = false := by simp [stays]
theorem stays_other {x s : ByteArray} (h : ¬ s = x) : stays x s = true := by
  have h2 : ¬ by8 s = by8 x := fun e => h (by8_inj e)
  simp [stays, h2]
theorem apart {s x : ByteArray} (h : ¬ s = x) : (s.toList == x.toList) = false := by
  rw [beq_eq_false_iff_ne, Lib.toList_data, Lib.toList_data]
  exact fun e => h (by8_inj e)
theorem fin_nodup {C L1 : List ByteArray} (hd : (L1.map by8).Nodup) : (fin C L1).Nodup := by
  have h := final_nodup (C := C) hd
  unfold fin
  exact List.pairwise_map.2 (h.imp fun hne e => hne (by have h2 := congrArg by8 e; rwa [by8_toB, by8_toB] at h2))
theorem mem_fin (C L1 : List ByteArray) (x : ByteArray) : x ∈ fin C L1 ↔ isIn L1 x = true ∧ isIn C x = false := by
  constructor
  · intro h; exact ⟨(fin_mem h).1, (fin_mem h).2.1⟩
  · rintro ⟨h1, h2⟩
    have : by8 x ∈ final C L1 := by
      unfold final
      rw [List.mem_mergeSort]
      unfold rest
      refine List.mem_filter.2 ⟨List.contains_iff_mem.1 h1, ?_⟩
      have h3 : (C.map by8).contains (by8 x) = false := h2
      rw [h3]; rfl
    unfold fin
    exact List.mem_map.2 ⟨by8 x, this, toB_by8 x⟩
theorem filter_all {x : ByteArray} : ∀ {l : List ByteArray}, ¬ x ∈ l → l.filter (stays x) = l := by
  intro l h
  refine List.filter_eq_self.2 fun s hs => stays_other ?_
  intro e; subst e; exact h hs
theorem filter_one {x : ByteArray} : ∀ {l : List ByteArray}, l.Nodup → x ∈ l → (l.filter (stays x)).length + 1 = l.length
  | [], _, h => by cases h
  | a :: l, hd, h => by
    rw [List.nodup_cons] at hd
    rw [List.filter_cons]
    by_cases e : a = x
    · subst e
      rw [stays_self, filter_all hd.1]
      simp
    · have hx : x ∈ l := by
        rcases List.mem_cons.1 h with h | h
        · exact absurd h.symm e
        · exact h
      rw [stays_other e]
      have ih := filter_one hd.2 hx
      simp; omega
/-- How many names fewer. -/
theorem fin_fewer {C L1 : List ByteArray} (x : ByteArray) (hd : (L1.map by8).Nodup) : (fin (C ++ [x]) L1).length + (if isIn L1 x && !isIn C x then 1 else 0) = (fin C L1).length := by
  have e : fin (C ++ [x]) L1 = (fin C L1).filter (stays x) := fin_snoc C L1 x
  rw [e]
  by_cases h : x ∈ fin C L1
  · have h2 := (mem_fin C L1 x).1 h
    rw [h2.1, h2.2]
    exact filter_one (fin_nodup hd) h
  · rw [filter_all h, if_neg]
    · rfl
    · intro h3
      rw [Bool.and_eq_true] at h3
      exact h ((mem_fin C L1 x).2 ⟨h3.1, by simpa using h3.2⟩)

set_option maxRecDepth 100000 in
set_option maxHeartbeats 2000000 in
theorem law5 (a0 a1 a2 : Option Addr) (c0 c1 c2 : Nat) (L0 L1 C : List ByteArray) (x : ByteArray) (w : World) (h0 : StrRow w a0 L0) (h1 : StrRow w a1 L1) (h2 : StrRow w a2 C)
    (hs0 : ∀ s ∈ L0, s.size ≤ maxLen) (hs1 : ∀ s ∈ L1, s.size ≤ maxLen) (hs2 : ∀ s ∈ C, s.size ≤ maxLen) (hx : x.size ≤ maxLen) :
    Calls Try.prog 5 #[.slice a0 L0.length c0, .slice a1 L1.length c1, .slice a2 C.length c2, .string x] w fun e w' => e = .returned (.bool true) ∧ Below w.heap.size w w' := by
  have HR0 := hideR h0
  have HR1 := hideR h1
  have HR2 := hideR h2
  have HS0 : Hid (∀ s ∈ L0, s.size ≤ maxLen) := hs0
  have HS1 : Hid (∀ s ∈ L1, s.size ≤ maxLen) := hs1
  have HS2 : Hid (∀ s ∈ C, s.size ≤ maxLen) := hs2
  have HX : Hid (x.size ≤ maxLen) := hx
  clear h0 h1 h2 hs0 hs1 hs2 hx
  go_enter Try.func5, Try.ntmps5
  go_wp2_with fail
  refine (bytes19 x a0 a1 a2 c0 c1 c2 L0 L1 C w HR0.out HR1.out HR2.out).mono ?_
  rintro e w' ⟨⟨bb, rfl, hbb⟩, rfl⟩
  cases bb
  · clear hbb
    go_wp2_with fail
    go_ret
    exact ⟨rfl, Below.refl _ _⟩
  have hsum := hbb rfl
  clear hbb
  have HSUM : Hid (L0.length + L1.length + C.length ≤ 1048576) := hsum
  clear hsum
  go_wp2_with fail
  refine (share_any a0 a1 a2 c0 c1 c2 L0 L1 C x w' HR0.out HR1.out HR2.out (by have := HSUM.out; omega) (by have := HSUM.out; omega) (by have := HSUM.out; omega)).mono ?_
  rintro e w ⟨r, rfl, rfl⟩
  by_cases hr : 1048576 < r
  · go_wp2_with fail
    go_ret
    exact ⟨rfl, Below.refl _ _⟩
  go_wp2_with fail
  refine (pairs_any a0 a1 c0 c1 L0 L1 w HR0.out HR1.out HS0.out HS1.out (by have := HSUM.out; omega)).mono ?_
  rintro e w1 ⟨⟨bb, rfl, hbb⟩, hb1⟩
  have HB1 := hideB hb1
  clear hb1 hr
  cases bb
  · clear hbb
    go_wp2_with fail
    go_ret
    exact ⟨rfl, HB1.out⟩
  have HP : Hid (L0.length = L1.length ∧ (L0.map by8).Nodup ∧ (L1.map by8).Nodup) := hbb rfl
  clear hbb
  go_wp2_with fail
  refine (parts_two a0 a1 c0 c1 L0 L1 w1 (HR0.out.below HB1.out) (HR1.out.below HB1.out) HS0.out HP.out.1 (by have := HSUM.out; omega)).mono ?_
  rintro e w2 ⟨rfl, hp2, hz2, hb2⟩
  have HP2 := hideP hp2
  have HZ2 : Hid (w1.heap.size + L0.length < w2.heap.size) := by show w1.heap.size + L0.length < w2.heap.size; omega
  have HB02 := hideB (HB1.out.trans (hb2.mono HB1.out.size))
  clear hp2 hz2 hb2 HB1
  go_wp2_with fail
  refine (set_any a2 c2 C w2 (HR2.out.below HB02.out) HS2.out (by have := HSUM.out; omega)).mono ?_
  rintro e w3 ⟨rfl, hm3, hb3⟩
  have HM3 := hideS hm3
  have HP3 := hideP (HP2.out.below hb3 HZ2.out)
  have HZ3 : Hid (w1.heap.size + L0.length < w3.heap.size) := Nat.lt_of_lt_of_le HZ2.out hb3.size
  have HB03 := hideB (HB02.out.trans (hb3.mono HB02.out.size))
  clear hm3 hb3 HP2 HZ2 HB02
  go_wp2_with fail
  refine (set_any a1 c1 L1 w3 (HR1.out.below HB03.out) HS1.out (by have := HSUM.out; omega)).mono ?_
  rintro e w4 ⟨rfl, hm4, hb4⟩
  have HN4 := hideS hm4
  have HM4 := hideS (HM3.out.below hb4 (World.ownsMap.lt HM3.out))
  have HP4 := hideP (HP3.out.below hb4 HZ3.out)
  have HZ4 : Hid (w1.heap.size + L0.length < w4.heap.size) := Nat.lt_of_lt_of_le HZ3.out hb4.size
  have HB04 := hideB (HB03.out.trans (hb4.mono HB03.out.size))
  clear hm4 hb4 HM3 HP3 HZ3 HB03
  go_wp2_with fail
  refine (share16 w1.heap.size w2.heap.size w4).mono ?_
  rintro e w5 ⟨rfl, rfl⟩
  go_wp2_with fail
  refine (lackC w1.heap.size w2.heap.size C.length L0 L1 C w4 HM4.out HP4.out HP.out.1 (by have := HSUM.out; omega) HP.out.2.1 HS1.out HZ4.out).mono ?_
  rintro e w5 ⟨ao, cap, rfl, hr5, hb5⟩
  have HR5 := hideR hr5
  have HN5 := hideS (HN4.out.below hb5 (World.ownsMap.lt HN4.out))
  have HM5 := hideS (HM4.out.below hb5 (World.ownsMap.lt HM4.out))
  have HP5 := hideP (HP4.out.below hb5 HZ4.out)
  have HZ5 : Hid (w1.heap.size + L0.length < w5.heap.size) := Nat.lt_of_lt_of_le HZ4.out hb5.size
  have HB05 := hideB (HB04.out.trans (hb5.mono HB04.out.size))
  clear hr5 hb5 HN4 HM4 HP4 HZ4 HB04
  go_wp2_with fail
  refine (set_any a2 c2 C w5 (HR2.out.below HB05.out) HS2.out (by have := HSUM.out; omega)).mono ?_
  rintro e w6 ⟨rfl, hm6, hb6⟩
  have HO6 := hideS hm6
  have HB56 := hideB hb6
  have HK : Hid (keyOf Try.prog 9 (.string x) = some (keyL x)) := WideMaps.keyOf_string_mk Try.underlying9 HX.out
  have hC : C.length ≤ 1048576 := by have := HSUM.out; omega
  clear hm6 hb6
  go_wp2_with (first
    | (at_mapUpdate; refine wpList_mapUpdate_own _ rfl _ _ _ 38 rfl 9 4 law Try.underlying38 (plainElem (H := Unit) Try.prog 4) w5.heap.size C.length _ rfl HO6.out (by unfold maxLen; omega) _ _ _ rfl rfl HK.out yes [] (plainElem_bool Try.underlying4 true) ?_; intro w7 hown7 hgrow7)
    | fail)
  have HO7 : Hid (IsSet w7 w5.heap.size (C.length + 1) (C ++ [x])) := by
    show w7.ownsMap Try.prog 9 (plainElem (H := Unit) Try.prog 4) w5.heap.size (C.length + 1) (setD (C ++ [x]))
    rw [setD_snoc]; exact hown7
  have hb57 : Below w5.heap.size w5 w7 := (below_put HB56.out hgrow7 (Nat.le_refl _) (Nat.le_refl _)).out
  have HR7 := hideR (HR5.out.below hb57)
  have HN7 := hideS (HN5.out.below hb57 (World.ownsMap.lt HN5.out))
  have HM7 := hideS (HM5.out.below hb57 (World.ownsMap.lt HM5.out))
  have HP7 := hideP (HP5.out.below hb57 HZ5.out)
  have HZ7 : Hid (w1.heap.size + L0.length < w7.heap.size) := Nat.lt_of_lt_of_le HZ5.out hb57.size
  have HB07 := hideB (HB05.out.trans (hb57.mono HB05.out.size))
  clear hown7 hgrow7 hb57 HR5 HN5 HM5 HP5 HZ5 HB05 HB56 HO6 HK
  go_wp2_with fail
  refine (share16 w1.heap.size w5.heap.size w7).mono ?_
  rintro e w8 ⟨rfl, rfl⟩
  go_wp2_with fail
  refine (lackC w1.heap.size w5.heap.size (C.length + 1) L0 L1 (C ++ [x]) w7 HO7.out HP7.out HP.out.1 (by have := HSUM.out; omega) HP.out.2.1 HS1.out HZ7.out).mono ?_
  rintro e w8 ⟨ao2, cap2, rfl, hr8, hb8⟩
  have HG8 := hideR hr8
  have HR8 := hideR (HR7.out.below hb8)
  have HN8 := hideS (HN7.out.below hb8 (World.ownsMap.lt HN7.out))
  have HM8 := hideS (HM7.out.below hb8 (World.ownsMap.lt HM7.out))
  have HB08 := hideB (HB07.out.trans (hb8.mono HB07.out.size))
  have hfl : (fin C L1).length ≤ 1048576 := by have := fin_small C L1; have := HSUM.out; omega
  clear hr8 hb8 HR7 HN7 HM7 HP7 HZ7 HB07 HO7
  go_wp2_with fail
  refine (count_two a1 c1 w2.heap.size C.length C L1 w8 (HR1.out.below HB08.out) HS1.out (by have := HSUM.out; omega) HM8.out).mono ?_
  rintro e w9 ⟨rfl, rfl⟩
  have hq1 := HN8.out.look x HX.out
  have hq2 := HM8.out.look x HX.out
  have hfew := fin_fewer (C := C) x HP.out.2.2
  have HFIL : Hid (fin (C ++ [x]) L1 = (fin C L1).filter (stays x)) := fin_snoc C L1 x
  generalize fin C L1 = F at HR8 hfl hfew HFIL ⊢
  generalize fin (C ++ [x]) L1 = G at HG8 hfew HFIL ⊢
  generalize isIn L1 x = u at hq1 hfew
  generalize isIn C x = v at hq2 hfew
  clear HN8 HM8
  have hgl : G.length ≤ 1048576 := Nat.le_trans (Nat.le_trans (Nat.le_add_right _ _) (Nat.le_of_eq hfew)) hfl
  cases u <;> cases v
  · have hgf : G.length = F.length := by simpa using hfew
    clear hfew
    have hb : ((G.length : Int) != (F.length : Int)) = false := by simp [hgf]
    clear hgf
    go_wp2_with fail
    clear hq1 hq2 hb
    go_loopw [17, 18] (fun j i wr => ∃ k jn q : Nat, k ≤ F.length ∧ i = .int .i64 k ∧ j = .int .i64 jn ∧ jn ≤ G.length ∧ Hid (jn = ((F.take k).filter (stays x)).length) ∧ wr = w9.drewN q) (fun _ i _ => F.length - (intOf i).toNat)
    case atStart => exact ⟨0, 0, 0, Nat.zero_le _, rfl, rfl, Nat.zero_le _, rfl, rfl⟩
    case round =>
      obtain ⟨k, jn, q, hk, rfl, rfl, hjn, HJ, rfl⟩ := hrel
      by_cases hlt : k < F.length
      · obtain ⟨g, o, rfl, hg, hc⟩ := HR8.out.at k hlt
        have HSN := filter_snoc (stays x) F k hlt
        have HNX := filter_next (stays x) F k hlt
        by_cases hx : F[k] = x
        · rw [hx] at hc HSN
          have HJ2 : Hid (jn = ((F.take (k + 1)).filter (stays x)).length) := by
            show jn = _
            rw [HSN, stays_self, HJ.out]; simp
          clear HSN HNX hx
          go_wp2_with fail
          go_roundw
          case rel => exact ⟨k + 1, jn, _, by omega, by go_num, rfl, hjn, HJ2, rfl⟩
          case measure => simp [intOf]; omega
        · rw [stays_other hx] at HSN
          have hne := HNX (stays_other hx)
          rw [← HJ.out, ← HFIL.out] at hne
          obtain ⟨hj, ej⟩ := List.getElem?_eq_some_iff.1 hne
          obtain ⟨g2, o2, rfl, hg2, hc2⟩ := HG8.out.at jn hj
          rw [ej] at hc2
          have HJ2 : Hid (jn + 1 = ((F.take (k + 1)).filter (stays x)).length) := by
            show jn + 1 = _
            rw [HSN, HJ.out]; simp
          clear HSN HNX hne ej
          generalize F[k] = s at hc hc2 hx
          have hd : decide ((G.length : Int) ≤ (jn : Int)) = false := decide_eq_false (by omega)
          have hd2 : decide (G.length ≤ jn) = false := decide_eq_false (by omega)
          have hd3 : ¬ (G.length : Int) ≤ (jn : Int) := by omega
          have hd4 : (jn : Int) < (G.length : Int) := by omega
          have hs1 : (s.toList == x.toList) = false := apart hx
          go_wp2_with fail
          go_quiet (fail)
          go_wp2_with fail
          go_roundw
          case rel => exact ⟨k + 1, jn + 1, _, by omega, by go_num, by go_num, by omega, HJ2, rfl⟩
          case measure => simp [intOf]; omega
      · obtain rfl : k = F.length := by omega
        obtain rfl : jn = G.length := by rw [HJ.out, List.take_length, HFIL.out]
        go_wp2_with fail
        go_ret
        exact ⟨by simp, below_drewN HB08.out q⟩
  · have hgf : G.length = F.length := by simpa using hfew
    clear hfew
    have hb : ((G.length : Int) != (F.length : Int)) = false := by simp [hgf]
    clear hgf
    go_wp2_with fail
    clear hq1 hq2 hb
    go_loopw [17, 18] (fun j i wr => ∃ k jn q : Nat, k ≤ F.length ∧ i = .int .i64 k ∧ j = .int .i64 jn ∧ jn ≤ G.length ∧ Hid (jn = ((F.take k).filter (stays x)).length) ∧ wr = w9.drewN q) (fun _ i _ => F.length - (intOf i).toNat)
    case atStart => exact ⟨0, 0, 0, Nat.zero_le _, rfl, rfl, Nat.zero_le _, rfl, rfl⟩
    case round =>
      obtain ⟨k, jn, q, hk, rfl, rfl, hjn, HJ, rfl⟩ := hrel
      by_cases hlt : k < F.length
      · obtain ⟨g, o, rfl, hg, hc⟩ := HR8.out.at k hlt
        have HSN := filter_snoc (stays x) F k hlt
        have HNX := filter_next (stays x) F k hlt
        by_cases hx : F[k] = x
        · rw [hx] at hc HSN
          have HJ2 : Hid (jn = ((F.take (k + 1)).filter (stays x)).length) := by
            show jn = _
            rw [HSN, stays_self, HJ.out]; simp
          clear HSN HNX hx
          go_wp2_with fail
          go_roundw
          case rel => exact ⟨k + 1, jn, _, by omega, by go_num, rfl, hjn, HJ2, rfl⟩
          case measure => simp [intOf]; omega
        · rw [stays_other hx] at HSN
          have hne := HNX (stays_other hx)
          rw [← HJ.out, ← HFIL.out] at hne
          obtain ⟨hj, ej⟩ := List.getElem?_eq_some_iff.1 hne
          obtain ⟨g2, o2, rfl, hg2, hc2⟩ := HG8.out.at jn hj
          rw [ej] at hc2
          have HJ2 : Hid (jn + 1 = ((F.take (k + 1)).filter (stays x)).length) := by
            show jn + 1 = _
            rw [HSN, HJ.out]; simp
          clear HSN HNX hne ej
          generalize F[k] = s at hc hc2 hx
          have hd : decide ((G.length : Int) ≤ (jn : Int)) = false := decide_eq_false (by omega)
          have hd2 : decide (G.length ≤ jn) = false := decide_eq_false (by omega)
          have hd3 : ¬ (G.length : Int) ≤ (jn : Int) := by omega
          have hd4 : (jn : Int) < (G.length : Int) := by omega
          have hs1 : (s.toList == x.toList) = false := apart hx
          go_wp2_with fail
          go_quiet (fail)
          go_wp2_with fail
          go_roundw
          case rel => exact ⟨k + 1, jn + 1, _, by omega, by go_num, by go_num, by omega, HJ2, rfl⟩
          case measure => simp [intOf]; omega
      · obtain rfl : k = F.length := by omega
        obtain rfl : jn = G.length := by rw [HJ.out, List.take_length, HFIL.out]
        go_wp2_with fail
        go_ret
        exact ⟨by simp, below_drewN HB08.out q⟩
  · have hgf : G.length + 1 = F.length := by simpa using hfew
    clear hfew
    have hb : ((G.length : Int) != (F.length : Int) - 1) = false := by rw [bne_eq_false_iff_eq]; omega
    clear hgf
    go_wp2_with fail
    clear hq1 hq2 hb
    go_loopw [17, 18] (fun j i wr => ∃ k jn q : Nat, k ≤ F.length ∧ i = .int .i64 k ∧ j = .int .i64 jn ∧ jn ≤ G.length ∧ Hid (jn = ((F.take k).filter (stays x)).length) ∧ wr = w9.drewN q) (fun _ i _ => F.length - (intOf i).toNat)
    case atStart => exact ⟨0, 0, 0, Nat.zero_le _, rfl, rfl, Nat.zero_le _, rfl, rfl⟩
    case round =>
      obtain ⟨k, jn, q, hk, rfl, rfl, hjn, HJ, rfl⟩ := hrel
      by_cases hlt : k < F.length
      · obtain ⟨g, o, rfl, hg, hc⟩ := HR8.out.at k hlt
        have HSN := filter_snoc (stays x) F k hlt
        have HNX := filter_next (stays x) F k hlt
        by_cases hx : F[k] = x
        · rw [hx] at hc HSN
          have HJ2 : Hid (jn = ((F.take (k + 1)).filter (stays x)).length) := by
            show jn = _
            rw [HSN, stays_self, HJ.out]; simp
          clear HSN HNX hx
          go_wp2_with fail
          go_roundw
          case rel => exact ⟨k + 1, jn, _, by omega, by go_num, rfl, hjn, HJ2, rfl⟩
          case measure => simp [intOf]; omega
        · rw [stays_other hx] at HSN
          have hne := HNX (stays_other hx)
          rw [← HJ.out, ← HFIL.out] at hne
          obtain ⟨hj, ej⟩ := List.getElem?_eq_some_iff.1 hne
          obtain ⟨g2, o2, rfl, hg2, hc2⟩ := HG8.out.at jn hj
          rw [ej] at hc2
          have HJ2 : Hid (jn + 1 = ((F.take (k + 1)).filter (stays x)).length) := by
            show jn + 1 = _
            rw [HSN, HJ.out]; simp
          clear HSN HNX hne ej
          generalize F[k] = s at hc hc2 hx
          have hd : decide ((G.length : Int) ≤ (jn : Int)) = false := decide_eq_false (by omega)
          have hd2 : decide (G.length ≤ jn) = false := decide_eq_false (by omega)
          have hd3 : ¬ (G.length : Int) ≤ (jn : Int) := by omega
          have hd4 : (jn : Int) < (G.length : Int) := by omega
          have hs1 : (s.toList == x.toList) = false := apart hx
          go_wp2_with fail
          go_quiet (fail)
          go_wp2_with fail
          go_roundw
          case rel => exact ⟨k + 1, jn + 1, _, by omega, by go_num, by go_num, by omega, HJ2, rfl⟩
          case measure => simp [intOf]; omega
      · obtain rfl : k = F.length := by omega
        obtain rfl : jn = G.length := by rw [HJ.out, List.take_length, HFIL.out]
        go_wp2_with fail
        go_ret
        exact ⟨by simp, below_drewN HB08.out q⟩
  · have hgf : G.length = F.length := by simpa using hfew
    clear hfew
    have hb : ((G.length : Int) != (F.length : Int)) = false := by simp [hgf]
    clear hgf
    go_wp2_with fail
    clear hq1 hq2 hb
    go_loopw [17, 18] (fun j i wr => ∃ k jn q : Nat, k ≤ F.length ∧ i = .int .i64 k ∧ j = .int .i64 jn ∧ jn ≤ G.length ∧ Hid (jn = ((F.take k).filter (stays x)).length) ∧ wr = w9.drewN q) (fun _ i _ => F.length - (intOf i).toNat)
    case atStart => exact ⟨0, 0, 0, Nat.zero_le _, rfl, rfl, Nat.zero_le _, rfl, rfl⟩
    case round =>
      obtain ⟨k, jn, q, hk, rfl, rfl, hjn, HJ, rfl⟩ := hrel
      by_cases hlt : k < F.length
      · obtain ⟨g, o, rfl, hg, hc⟩ := HR8.out.at k hlt
        have HSN := filter_snoc (stays x) F k hlt
        have HNX := filter_next (stays x) F k hlt
        by_cases hx : F[k] = x
        · rw [hx] at hc HSN
          have HJ2 : Hid (jn = ((F.take (k + 1)).filter (stays x)).length) := by
            show jn = _
            rw [HSN, stays_self, HJ.out]; simp
          clear HSN HNX hx
          go_wp2_with fail
          go_roundw
          case rel => exact ⟨k + 1, jn, _, by omega, by go_num, rfl, hjn, HJ2, rfl⟩
          case measure => simp [intOf]; omega
        · rw [stays_other hx] at HSN
          have hne := HNX (stays_other hx)
          rw [← HJ.out, ← HFIL.out] at hne
          obtain ⟨hj, ej⟩ := List.getElem?_eq_some_iff.1 hne
          obtain ⟨g2, o2, rfl, hg2, hc2⟩ := HG8.out.at jn hj
          rw [ej] at hc2
          have HJ2 : Hid (jn + 1 = ((F.take (k + 1)).filter (stays x)).length) := by
            show jn + 1 = _
            rw [HSN, HJ.out]; simp
          clear HSN HNX hne ej
          generalize F[k] = s at hc hc2 hx
          have hd : decide ((G.length : Int) ≤ (jn : Int)) = false := decide_eq_false (by omega)
          have hd2 : decide (G.length ≤ jn) = false := decide_eq_false (by omega)
          have hd3 : ¬ (G.length : Int) ≤ (jn : Int) := by omega
          have hd4 : (jn : Int) < (G.length : Int) := by omega
          have hs1 : (s.toList == x.toList) = false := apart hx
          go_wp2_with fail
          go_quiet (fail)
          go_wp2_with fail
          go_roundw
          case rel => exact ⟨k + 1, jn + 1, _, by omega, by go_num, by go_num, by omega, HJ2, rfl⟩
          case measure => simp [intOf]; omega
      · obtain rfl : k = F.length := by omega
        obtain rfl : jn = G.length := by rw [HJ.out, List.take_length, HFIL.out]
        go_wp2_with fail
        go_ret
        exact ⟨by simp, below_drewN HB08.out q⟩
end Go.Proofs.Qxb6609138a
