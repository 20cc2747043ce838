/-
  share.partnerNames, at the closure of share.lacking: the names that are not confirmed, sorted.
-/
import Derived.Test.Qxb6609138aLack
import Derived.Test.Qxb6609138aPlain
import Derived.Test.Qxb6609138aShelf
import Derived.Maps.RangeWalk
import Derived.Maps.AppendAt
import Derived.Sort.KeysCollected
import Derived.Sort.OwnSorted
namespace Go.Proofs.Qxb6609138a
open Go.RowKit
open Go.Maps Go.Sort
open Plain

theorem blockD_inj {a b : Nat} (h : blockD a = blockD b) : a = b := by
  unfold blockD at h
  injection h with h
  injection h with _ h
  omega
/-- Which partner an entry of the map leads to. -/
theorem part_at (B : Nat) (L : List ByteArray) : ∀ (n : Nat), n ≤ L.length → ∀ (x : List UInt8) (c : Nat), (∀ zd, (partD B L n).atKey (.string x) zd = blockD c) → ∃ (i : Nat) (h : i < L.length), i < n ∧ x = by8 L[i] ∧ c = B + 1 + i := by
  intro n
  induction n with
  | zero =>
    intro _ x c h
    exfalso
    have h1 := h (blockD (c + 1))
    have h2 := blockD_inj (show blockD (c + 1) = blockD c from h1)
    omega
  | succ n ih =>
    intro hn x c h
    have hl : n < L.length := by omega
    have e : L.getD n ByteArray.empty = L[n] := by simp [List.getD, hl]
    have hm : IsMap (partD B L n) := by
      clear h ih hn hl e
      induction n with
      | zero => exact isMap_empty
      | succ n ih => exact ih.put _ _
    by_cases hx : Lit.string x = keyL L[n]
    · have h1 := h (blockD 0)
      simp only [partD, e] at h1
      rw [hx, atKey_put_same hm (by trivial)] at h1
      refine ⟨n, hl, by omega, ?_, (blockD_inj h1).symm⟩
      unfold keyL at hx
      injection hx
    · obtain ⟨i, hi, h1, h2, h3⟩ := ih (by omega) x c (fun zd => by
        have h1 := h zd
        simp only [partD, e] at h1
        rw [atKey_put_other hx] at h1
        exact h1)
      exact ⟨i, hi, by omega, h2, h3⟩
theorem part_isMap (B : Nat) (L : List ByteArray) : ∀ n, IsMap (partD B L n)
  | 0 => isMap_empty
  | n + 1 => (part_isMap B L n).put _ _
theorem part_has (B : Nat) (L : List ByteArray) : ∀ (n : Nat), n ≤ L.length → ∀ x, Maps.has (partD B L n) (.string x) = ((L.take n).map by8).contains x := by
  intro n
  induction n with
  | zero => intro _ x; rfl
  | succ n ih =>
    intro hn x
    have hl : n < L.length := by omega
    have e : L.getD n ByteArray.empty = L[n] := by simp [List.getD, hl]
    simp only [partD, e]
    rw [take_snocB L n hl, List.map_append, List.map_singleton]
    by_cases hx : Lit.string x = keyL L[n]
    · rw [hx, has_put_same (part_isMap B L n) (by trivial)]
      have h2 : x = by8 L[n] := by unfold keyL at hx; injection hx
      rw [h2]
      simp
    · rw [has_put_other hx, ih (by omega) x]
      have h2 : ¬ x = by8 L[n] := fun e2 => hx (by rw [e2]; rfl)
      simp [h2]
theorem own_size {w : World} {R : Value → Option (DataW Unit × List MemPlace)} {b n : Nat} {D : DataW Unit} (h : w.ownsMap Try.prog 9 R b n D) : Maps.size D ≤ n := by
  obtain ⟨es, clock, _, _, h1, rfl⟩ := h
  rw [Maps.size_eq, length_sorted]
  simpa using h1

theorem info9 : (Try.prog.info? 9).map (fun i => (i.zero, i.size, i.bytes)) = some (some (.string ⟨#[]⟩), 1, 16) := by kernel_rfl
/-- What has been gathered when the keys 'vis' have come. -/
def res (C L0 L1 : List ByteArray) (vis : List (List UInt8)) : List (List UInt8) := rest (C.map by8) (vis.map (nm (L0.map by8) (L1.map by8)))
/-- The names that are not confirmed, sorted. -/
def final (C L1 : List ByteArray) : List (List UInt8) := (rest (C.map by8) (L1.map by8)).mergeSort fun x y => decide (x ≤ y)
theorem res_snoc (C L0 L1 : List ByteArray) (vis : List (List UInt8)) (x : List UInt8) : res C L0 L1 (vis ++ [x]) = res C L0 L1 vis ++ (if (C.map by8).contains (nm (L0.map by8) (L1.map by8) x) then [] else [nm (L0.map by8) (L1.map by8) x]) := by
  unfold res
  rw [List.map_append, List.map_singleton, rest_snoc]
theorem res_final {C L0 L1 : List ByteArray} {vis : List (List UInt8)} (hd : (L0.map by8).Nodup) (hl : L0.length = L1.length) (hp : vis.Perm (L0.map by8)) : (res C L0 L1 vis).mergeSort (fun x y => decide (x ≤ y)) = final C L1 := by
  unfold final res
  refine mergeSort_of_perm (rest_perm ?_)
  have h1 := hp.map (nm (L0.map by8) (L1.map by8))
  rw [map_nm hd (by simpa using hl)] at h1
  exact h1
theorem vis_perm {pm : Nat} {L0 : List ByteArray} {left : Lit → Bool} {vis : List (List UInt8)} (hd : (L0.map by8).Nodup) (hC : Collected (partD pm L0 L0.length) left vis) (hl : ∀ kl, left kl = false) : vis.Perm (L0.map by8) := by
  refine perm_of_mem hC.1 hd (fun x => ?_)
  rw [hC.2 x, part_has pm L0 L0.length (Nat.le_refl _) x, List.take_length, List.contains_iff_mem]
  exact ⟨fun h => h.1, fun h => ⟨h, hl _⟩⟩

theorem res_len (C L0 L1 : List ByteArray) (vis : List (List UInt8)) : (res C L0 L1 vis).length ≤ vis.length := by
  unfold res
  exact Nat.le_trans (rest_len _ _) (by simp)
theorem encStr_by8 (s : ByteArray) : encStr (by8 s) = .string s := by
  obtain ⟨d⟩ := s
  simp [encStr, by8]
theorem row_same {w w3 : World} {base n : Nat} {v : Value} {xs : List Value} (h : w.ownsRow base 9 1 v n xs) (hq : ∃ q, w3 = w.drewN q) : Hid (w3.ownsRow base 9 1 v n xs) := by
  obtain ⟨q, rfl⟩ := hq
  exact h
theorem hideC {f : Nat} {args : Array Value} {w : World} {R : Ending → World → Prop} (h : Calls Try.prog f args w R) : Hid (Calls Try.prog f args w R) := h

set_option maxRecDepth 100000 in
set_option maxHeartbeats 1000000 in
theorem names_any (pm cb nc bx sb : Nat) (L0 L1 C : List ByteArray) (w : World)
    (hs4 : w.cell? ⟨sb, 4, none⟩ = some (.map (some pm))) (hs9 : w.cell? ⟨sb, 9, none⟩ = some (.map (some cb))) (hbx : w.cell? ⟨bx, 0, none⟩ = some (.pointer (some ⟨sb, 0, none⟩)))
    (hm : IsSet w cb nc C) (hp : IsPart w pm L0.length L0 L1) (hn1 : L1.length = L0.length) (hn : L0.length ≤ 1048576) (hd0 : (L0.map by8).Nodup) (hs1 : ∀ s ∈ L1, s.size ≤ maxLen) (hpb : pm + L0.length < w.heap.size) :
    Calls Try.prog 25 #[.pointer (some ⟨sb, 0, none⟩), .func (Fn.func 26) #[] #[.pointer (some ⟨bx, 0, none⟩)]] w fun e w' => ∃ ao cap, e = .returned (.slice ao (final C L1).length cap) ∧
      w'.ownsRow w.heap.size 9 1 (.slice ao (final C L1).length cap) (final C L1).length ((final C L1).map encStr) ∧ Below w.heap.size w w' := by
  obtain ⟨i0, hi, hz⟩ := Option.map_eq_some_iff.1 info9
  obtain ⟨hz0, hz1, hz2⟩ : i0.zero = some (.string ⟨#[]⟩) ∧ i0.size = 1 ∧ i0.bytes = 16 := by simpa using hz
  have HI : Hid (Try.prog.info? 9 = some i0 ∧ i0.zero = some (.string ⟨#[]⟩) ∧ i0.size = 1 ∧ i0.bytes = 16) := ⟨hi, hz0, hz1, hz2⟩
  clear hz hi hz0 hz1 hz2
  have HM : Hid (IsSet w cb nc C) := hm
  have HP : Hid (IsPart w pm L0.length L0 L1) := hp
  have HN1 : Hid (L1.length = L0.length) := hn1
  have HD0 : Hid ((L0.map by8).Nodup) := hd0
  have HS1 : Hid (∀ s ∈ L1, s.size ≤ maxLen) := hs1
  have HC9 : Hid (w.cell? ⟨sb, 9, none⟩ = some (.map (some cb))) := hs9
  have HCB : Hid (w.cell? ⟨bx, 0, none⟩ = some (.pointer (some ⟨sb, 0, none⟩))) := hbx
  have hpm : pm < w.heap.size := by omega
  clear hm hp hn1 hd0 hs1 hs9 hbx
  go_enter Try.func25, Try.ntmps25
  go_wp2_with (first
    | (at_range; refine wpList_range_own _ rfl _ 43 rfl 9 56 law Try.underlying43 ptrElem pm L0.length _ rfl HP.out.1 ?_; intro w0 hrg0 hg0 hs0)
    | go_in)
  go_frame
  have HB0 : Hid (Below w.heap.size w w0) := (Below.refl _ _).grown hg0 (Nat.le_refl _) (fun j hj => by cases hj)
  have HRG0 : Hid (w0.ranges Try.prog 9 ptrElem pm w.heap.size L0.length (partD pm L0 L0.length) (Maps.has (partD pm L0 L0.length)) (Maps.size (partD pm L0 L0.length))) := hrg0
  clear hrg0 hg0 hs0
  go_loopw [5] (fun v wr => ∃ (left : Lit → Bool) (cnt : Nat) (vis : List (List UInt8)), Hid (wr.ranges Try.prog 9 ptrElem pm w.heap.size L0.length (partD pm L0 L0.length) left cnt) ∧ Hid (vis.length + cnt ≤ L0.length) ∧
      Hid (wr.ownsRow w.heap.size 9 1 v (res C L0 L1 vis).length ((res C L0 L1 vis).map encStr)) ∧ Hid (Collected (partD pm L0 L0.length) left vis) ∧ Hid (Below w.heap.size w wr))
    (fun _ wr => wr.rangeLeft pm w.heap.size)
  case atStart => exact ⟨_, _, [], HRG0, by show 0 + _ ≤ _; have := own_size HP.out.1; omega, World.ownsRow_nil _ _ _ _, Collected.start _, HB0⟩
  case round =>
    obtain ⟨left, cnt, vis, HRG, HCS, HROW, HCO, HB⟩ := hrel
    go_wp2_with (first
      | (at_next; refine wpList_next_ranges _ rfl _ rfl 9 law ptrElem encStr (fun b : Nat => Value.pointer (some ⟨b, 0, none⟩)) (fun key kl hk => by obtain ⟨x, hx, _⟩ := Maps.keyOf_str Try.underlying9 hk; exact ⟨x, hx⟩) (fun v y hv => by obtain ⟨c, rfl, _⟩ := ptrElem_inv hv; exact ⟨c, rfl⟩) pm w.heap.size L0.length _ _ _ rfl HRG.out ?_ ?_)
      | go_in)
    · intro hc0 hl0
      have hf := res_final (C := C) HD0.out HN1.out.symm (vis_perm HD0.out HCO.out hl0)
      have hlen : (final C L1).length = (res C L0 L1 vis).length := by rw [← hf]; simp
      have hbd := res_len C L0 L1 vis
      have hcs : vis.length + cnt ≤ L0.length := HCS.out
      rcases HROW.out.2 with ⟨hnil, hz⟩ | ⟨g, cap, cur, hv, hbase, hb, h1, h2, h3, h4⟩
      · subst hnil
        have hfin : final C L1 = [] := List.eq_nil_of_length_eq_zero (by rw [hlen]; exact hz)
        have HF : Hid (final C L1 = []) := hfin
        clear hf hlen hz hc0 hl0 hfin hbd hcs
        go_wp2_with fail
        refine (Try.slices_Sort_string_none none 0 _).mono ?_
        rintro e w' ⟨rfl, rfl⟩
        go_wp2_with fail
        go_ret
        rw [HF.out]
        exact ⟨none, 0, rfl, World.ownsRow_nil _ _ _ _, HB.out⟩
      · subst hv
        have hH : Holds encStr wr g 0 (res C L0 L1 vis).toArray := holds_of_block hb (by simpa using h4)
        have hgl : g < wr.heap.size := (Array.getElem?_eq_some_iff.1 hb).1
        have HSO := Try.slices_Sort_string g 0 cap (res C L0 L1 vis) wr hH hgl (by omega)
        have HRS : Hid (∀ (nn : Nat) (os : Array Obj), (grow (putRow encStr (Sort.ahead wr nn) g 0 ((res C L0 L1 vis).mergeSort fun x y => decide (x ≤ y)).toArray) os).ownsRow w.heap.size 9 1 (.slice (some ⟨g, 0, none⟩) (res C L0 L1 vis).length cap) (res C L0 L1 vis).length (((res C L0 L1 vis).mergeSort fun x y => decide (x ≤ y)).map encStr)) :=
          fun nn os => ownsRow_sorted (by simp) hbase hb h1 h2 h3
        have HF : Hid ((res C L0 L1 vis).mergeSort (fun x y => decide (x ≤ y)) = final C L1) := hf
        have HLN : Hid ((final C L1).length = (res C L0 L1 vis).length) := hlen
        have HBS : Hid (w.heap.size ≤ g) := hbase
        clear hf hlen hc0 hl0 hbd hcs hH hgl hb h1 h2 h3 h4 hbase
        go_wp2_with fail
        refine HSO.mono ?_
        rintro e w' ⟨rfl, nn, os, rfl⟩
        go_wp2_with fail
        go_ret
        rw [HLN.out]
        refine ⟨some ⟨g, 0, none⟩, cap, rfl, ?_, HB.out.grown (grownBy_sorted _) HB.out.size (fun j hj => by cases hj; exact HBS.out)⟩
        rw [← HF.out]
        exact HRS.out nn os
    · intro x c kl yd yp w2 cnt2 hkey hlk hv hat hrg2 hlt hg2 hs2 hen
      obtain ⟨x', ex, rfl, _⟩ := Maps.keyOf_str Try.underlying9 hkey
      obtain rfl : x = x' := encStr_inj ex
      rw [ptrElem_mk] at hv
      obtain ⟨rfl, rfl⟩ : blockD c = yd ∧ [] = yp := by simpa using hv
      obtain ⟨i, hi0, _, rfl, rfl⟩ := part_at pm L0 L0.length (Nat.le_refl _) x c hat
      have l1 : i < L1.length := by rw [HN1.out]; exact hi0
      have hB2 : Below w.heap.size w w2 := HB.out.grown hg2 HB.out.size (fun j hj => by cases hj; exact Nat.le_refl _)
      have c1 : w2.cell? ⟨bx, 0, none⟩ = some (.pointer (some ⟨sb, 0, none⟩)) := by rw [hB2.cell (p := ⟨bx, 0, none⟩) (Lib.lt_of_cell HCB.out)]; exact HCB.out
      have c2 : w2.cell? ⟨sb, 9, none⟩ = some (.map (some cb)) := by rw [hB2.cell (p := ⟨sb, 9, none⟩) (Lib.lt_of_cell HC9.out)]; exact HC9.out
      have c3 : w2.cell? ⟨pm + 1 + i, 0, none⟩ = some (.string L1[i]) := by rw [hB2.cell (p := ⟨pm + 1 + i, 0, none⟩) (by show pm + 1 + i < w.heap.size; omega)]; exact HP.out.2 i l1 hi0
      have HM2 : IsSet w2 cb nc C := HM.out.below hB2 (World.ownsMap.lt HM.out)
      have hK := keep_any (pm + 1 + i) bx sb cb nc C L1[i] w2 c1 c2 c3 (HS1.out _ (List.getElem_mem l1)) HM2
      have hrow2 := HROW.out.kept hg2 (Or.inr (row_ne_iter HROW.out HRG.out).symm)
      have HCO2 := HCO.out.step hlk hat
      have hnm : nm (L0.map by8) (L1.map by8) (by8 L0[i]) = by8 L1[i] := by
        have h9 := nm_at (K0 := L0.map by8) (K1 := L1.map by8) HD0.out i (by simpa using hi0) (by simpa using l1)
        simpa using h9
      have hstep := res_snoc C L0 L1 vis (by8 L0[i])
      rw [hnm] at hstep
      have hbd := res_len C L0 L1 vis
      have hcs : vis.length + cnt ≤ L0.length := HCS.out
      have HCS2 : Hid ((vis ++ [by8 L0[i]]).length + cnt2 ≤ L0.length) := by
        show (vis ++ [by8 L0[i]]).length + cnt2 ≤ L0.length
        rw [List.length_append, List.length_singleton]; omega
      have HLT : Hid (cnt2 < cnt) := hlt
      have HST : Hid (res C L0 L1 (vis ++ [by8 L0[i]]) = res C L0 L1 vis ++ (if (C.map by8).contains (by8 L1[i]) then [] else [by8 L1[i]])) := hstep
      have HK := hideC hK
      have HCOL : Hid (Collected (partD pm L0 L0.length) (fun z => left z && !z.sameKey (.string (by8 L0[i]))) (vis ++ [by8 L0[i]])) := HCO2
      have HRW : Hid (w2.ownsRow w.heap.size 9 1 _ (res C L0 L1 vis).length ((res C L0 L1 vis).map encStr)) := hrow2
      have HR2 : Hid (w2.ranges Try.prog 9 ptrElem pm w.heap.size L0.length (partD pm L0 L0.length) (fun z => left z && !z.sameKey (.string (by8 L0[i]))) cnt2) := hrg2
      have HB2 : Hid (Below w.heap.size w w2) := hB2
      have HC3 : Hid (w2.cell? ⟨pm + 1 + i, 0, none⟩ = some (.string L1[i])) := c3
      clear hK hrow2 HCO2 hnm hstep hlt hrg2 hB2 c1 c2 c3 HM2 hlk hv hat hg2 hs2 hkey ex
      go_wp2_with fail
      refine HK.out.mono ?_
      rintro e w3 ⟨rfl, hq⟩
      clear hen
      have HB3 : Hid (Below w.heap.size w w3) := by obtain ⟨q, rfl⟩ := hq; exact below_drewN HB2.out q
      have HRG3 : Hid (w3.ranges Try.prog 9 ptrElem pm w.heap.size L0.length (partD pm L0 L0.length) (fun z => left z && !z.sameKey (.string (by8 L0[i]))) cnt2) := by obtain ⟨q, rfl⟩ := hq; exact HR2.out
      have HRW3 := row_same HRW.out hq
      have c3 : w3.cell? ⟨pm + 1 + i, 0, none⟩ = some (.string L1[i]) := by obtain ⟨q, rfl⟩ := hq; exact HC3.out
      have hsz3 : w.heap.size ≤ w3.heap.size := HB3.out.size
      clear hq HB2 HR2 HRW HC3 HK
      cases hin : isIn C L1[i]
      · have HIN : Hid (isIn C L1[i] = false) := hin
        clear hin
        go_wp2_with (first
          | (at_builtin; refine wpList_append_own _ rfl _ _ 34 rfl w.heap.size 9 i0 (.string ⟨#[]⟩) 1 16 Try.underlying34 HI.out.1 HI.out.2.1 HI.out.2.2.1 HI.out.2.2.2 rfl (by decide) _ _ _ rfl (HRW3.out.alloc _) ⟨w3.heap.size, 0, none⟩ 1 1 [.string L1[i]] rfl rfl (cell_one_new _ _ _) (by simp [Value.oneCell']) (by unfold maxLen; omega) (by omega) (by simp; omega) ?_; intro v4 w4 hown4 hg4 hnil4; go_frame)
          | go_in)
        have HRG4 : Hid (w4.ranges Try.prog 9 ptrElem pm w.heap.size L0.length (partD pm L0 L0.length) (fun z => left z && !z.sameKey (.string (by8 L0[i]))) cnt2) := (HRG3.out.alloc _).kept hg4 (row_ne_low HRW3.out hpm) (row_ne_iter HRW3.out HRG3.out)
        go_roundw
        case rel =>
          refine ⟨_, cnt2, vis ++ [by8 L0[i]], HRG4, HCS2, ?_, HCOL, ?_⟩
          · show w4.ownsRow w.heap.size 9 1 v4 _ _
            rw [HST.out, show (C.map by8).contains (by8 L1[i]) = false from HIN.out]
            simpa [encStr_by8] using hown4
          · exact ((HB3.out.alloc (by omega) _).grown hg4 (by simp; omega) (fun j hj => (HRW3.out.lt j hj).1))
        case measure => rw [HRG4.out.left_eq, HRG.out.left_eq]; exact HLT.out
      · have HIN : Hid (isIn C L1[i] = true) := hin
        clear hin
        go_wp2
        go_roundw
        case rel =>
          refine ⟨_, cnt2, vis ++ [by8 L0[i]], HRG3, HCS2, ?_, HCOL, HB3⟩
          show w3.ownsRow w.heap.size 9 1 _ _ _
          rw [HST.out, show (C.map by8).contains (by8 L1[i]) = true from HIN.out]
          simpa using HRW3.out
        case measure => rw [HRG3.out.left_eq, HRG.out.left_eq]; exact HLT.out

theorem own_lower {w : World} {b b2 n : Nat} {v : Value} {xs : List Value} (h : w.ownsRow b 9 1 v n xs) (hb : b2 ≤ b) : w.ownsRow b2 9 1 v n xs := by
  obtain ⟨h1, h2⟩ := h
  refine ⟨h1, ?_⟩
  rcases h2 with h2 | ⟨g, cap, cur, e1, e2, e3⟩
  · exact .inl h2
  · exact .inr ⟨g, cap, cur, e1, Nat.le_trans hb e2, e3⟩
theorem IsPart.below {w w1 : World} {B pm k : Nat} {L0 L1 : List ByteArray} (h : IsPart w pm k L0 L1) (hb : Below B w w1) (hlt : pm + k < B) : IsPart w1 pm k L0 L1 := by
  obtain ⟨⟨es, clock, h1, h2⟩, h3⟩ := h
  refine ⟨⟨es, clock, by rw [hb.block pm (by omega)]; exact h1, h2⟩, ?_⟩
  intro i hi hk
  rw [hb.cell (p := ⟨pm + 1 + i, 0, none⟩) (by show pm + 1 + i < B; omega)]
  exact h3 i hi hk

set_option maxRecDepth 100000 in
set_option maxHeartbeats 400000 in
theorem lack23 (pm cb nc sb : Nat) (L0 L1 C : List ByteArray) (w : World)
    (hs4 : w.cell? ⟨sb, 4, none⟩ = some (.map (some pm))) (hs9 : w.cell? ⟨sb, 9, none⟩ = some (.map (some cb)))
    (hm : IsSet w cb nc C) (hp : IsPart w pm L0.length L0 L1) (hn1 : L1.length = L0.length) (hn : L0.length ≤ 1048576) (hd0 : (L0.map by8).Nodup) (hs1 : ∀ s ∈ L1, s.size ≤ maxLen) (hpb : pm + L0.length < w.heap.size) :
    Calls Try.prog 23 #[.pointer (some ⟨sb, 0, none⟩)] w fun e w' => ∃ ao cap, e = .returned (.slice ao (final C L1).length cap) ∧
      w'.ownsRow w.heap.size 9 1 (.slice ao (final C L1).length cap) (final C L1).length ((final C L1).map encStr) ∧ Below w.heap.size w w' := by
  have hb : ∀ o, Below w.heap.size w (w.alloc o) := fun o => (Below.refl _ _).alloc (Nat.le_refl _) o
  have HC : Hid (∀ o, Calls Try.prog 25 #[.pointer (some ⟨sb, 0, none⟩), .func (Fn.func 26) #[] #[.pointer (some ⟨w.heap.size, 0, none⟩)]] (w.alloc (.cells #[.pointer (some ⟨sb, 0, none⟩)] o)) fun e w' => ∃ ao cap, e = .returned (.slice ao (final C L1).length cap) ∧
      w'.ownsRow (w.alloc (.cells #[.pointer (some ⟨sb, 0, none⟩)] o)).heap.size 9 1 (.slice ao (final C L1).length cap) (final C L1).length ((final C L1).map encStr) ∧ Below (w.alloc (.cells #[.pointer (some ⟨sb, 0, none⟩)] o)).heap.size (w.alloc (.cells #[.pointer (some ⟨sb, 0, none⟩)] o)) w') := by
    intro o
    refine names_any pm cb nc w.heap.size sb L0 L1 C _ ?_ ?_ ?_ (hm.below (hb _) (World.ownsMap.lt hm)) (hp.below (hb _) hpb) hn1 hn hd0 hs1 (by simp; omega)
    · rw [(hb _).cell (p := ⟨sb, 4, none⟩) (Lib.lt_of_cell hs4)]; exact hs4
    · rw [(hb _).cell (p := ⟨sb, 9, none⟩) (Lib.lt_of_cell hs9)]; exact hs9
    · simp
  have HBB : Hid (∀ o, Below w.heap.size w (w.alloc o)) := hb
  clear hs4 hs9 hm hp hn1 hn hd0 hs1 hpb hb
  go_enter Try.func23, Try.ntmps23
  go_wp2_with fail
  refine (HC.out 41).mono ?_
  rintro e w1 ⟨ao, cap, rfl, ho, hb1⟩
  have HO : Hid (w1.ownsRow w.heap.size 9 1 (.slice ao (final C L1).length cap) (final C L1).length ((final C L1).map encStr)) := own_lower ho (by simp)
  have HB1 : Hid (Below w.heap.size w w1) := (HBB.out _).trans (hb1.mono (by simp))
  clear ho hb1
  go_wp2_with fail
  go_ret
  exact ⟨ao, cap, rfl, HO.out, HB1.out⟩

set_option maxRecDepth 100000 in
set_option maxHeartbeats 400000 in
theorem lack15 (pm cb nc sb : Nat) (L0 L1 C : List ByteArray) (w : World)
    (hs4 : w.cell? ⟨sb, 4, none⟩ = some (.map (some pm))) (hs9 : w.cell? ⟨sb, 9, none⟩ = some (.map (some cb)))
    (hm : IsSet w cb nc C) (hp : IsPart w pm L0.length L0 L1) (hn1 : L1.length = L0.length) (hn : L0.length ≤ 1048576) (hd0 : (L0.map by8).Nodup) (hs1 : ∀ s ∈ L1, s.size ≤ maxLen) (hpb : pm + L0.length < w.heap.size) :
    Calls Try.prog 15 #[.pointer (some ⟨sb, 0, none⟩)] w fun e w' => ∃ ao cap, e = .returned (.slice ao (final C L1).length cap) ∧
      w'.ownsRow w.heap.size 9 1 (.slice ao (final C L1).length cap) (final C L1).length ((final C L1).map encStr) ∧ Below w.heap.size w w' := by
  have HC := hideC (lack23 pm cb nc sb L0 L1 C w hs4 hs9 hm hp hn1 hn hd0 hs1 hpb)
  clear hs4 hs9 hm hp hn1 hn hd0 hs1 hpb
  go_enter Try.func15, Try.ntmps15
  go_wp2_with fail
  refine HC.out.mono ?_
  rintro e w1 ⟨ao, cap, rfl, ho, hb1⟩
  have HO : Hid (w1.ownsRow w.heap.size 9 1 (.slice ao (final C L1).length cap) (final C L1).length ((final C L1).map encStr)) := ho
  have HB1 : Hid (Below w.heap.size w w1) := hb1
  clear ho hb1
  go_wp2_with fail
  go_ret
  exact ⟨ao, cap, rfl, HO.out, HB1.out⟩
end Go.Proofs.Qxb6609138a
