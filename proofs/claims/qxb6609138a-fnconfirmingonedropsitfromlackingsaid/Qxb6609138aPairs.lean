/-
  zzCountUnconfirmed, zzDistinctPairs.
-/
import Derived.Test.Qxb6609138aSets
namespace Go.Proofs.Qxb6609138a
open Go.RowKit
open Go.Maps

/-- Those of L that are not among C. -/
def notIn (C L : List ByteArray) : List ByteArray := L.filter fun s => !isIn C s
theorem notIn_snoc (C L : List ByteArray) (s : ByteArray) : notIn C (L ++ [s]) = notIn C L ++ (if isIn C s then [] else [s]) := by
  unfold notIn
  rw [List.filter_append]
  cases h : isIn C s <;> simp [h]

set_option maxRecDepth 100000 in
set_option maxHeartbeats 400000 in
theorem count_any (a : Option Addr) (c b n : Nat) (C L : List ByteArray) (w : World) (hr : StrRow w a L) (hs : ∀ s ∈ L, s.size ≤ maxLen) (hL : L.length ≤ 1048576) (hm : IsSet w b n C) :
    Calls Try.prog 18 #[.slice a L.length c, .map (some b)] w fun e w' => e = .returned (.int .i64 (notIn C L).length) ∧ w' = w := by
  have HR : Hid (StrRow w a L) := hr
  have HS : Hid (∀ s ∈ L, s.size ≤ maxLen) := hs
  have HM : Hid (IsSet w b n C) := hm
  clear hr hs hm
  go_enter Try.func18, Try.ntmps18
  go_wp2
  go_loop [5, 6] (fun v i => ∃ k : Nat, k ≤ L.length ∧ i = .int .i64 k ∧ v = .int .i64 (notIn C (L.take k)).length) (fun _ i => L.length - (intOf i).toNat)
  case atStart => exact ⟨0, Nat.zero_le _, rfl, rfl⟩
  case round =>
    obtain ⟨k, hk, rfl, rfl⟩ := hrel
    have hle : (notIn C (L.take k)).length ≤ k := Nat.le_trans (List.length_filter_le _ _) (List.length_take_le _ _)
    by_cases hlt : k < L.length
    · obtain ⟨b1, o, rfl, hb, hc⟩ := HR.out.at k hlt
      have hq := HM.out.look L[k] (HS.out _ (List.getElem_mem hlt))
      have HX : Hid (notIn C (L.take (k + 1)) = notIn C (L.take k) ++ (if isIn C L[k] then [] else [L[k]])) := by
        show notIn C (L.take (k + 1)) = _
        rw [take_snocB L k hlt, notIn_snoc]
      generalize notIn C (L.take k) = M at HX hle ⊢
      cases hin : isIn C L[k]
      · rw [hin] at hq
        have HE : Hid (isIn C L[k] = false) := hin
        clear hin
        go_wp2
        go_round
        case rel => exact ⟨k + 1, by omega, by go_num, by rw [HX.out, HE.out]; simp⟩
        case measure => simp [intOf]; omega
      · rw [hin] at hq
        have HE : Hid (isIn C L[k] = true) := hin
        clear hin
        go_wp2
        go_round
        case rel => exact ⟨k + 1, by omega, by go_num, by rw [HX.out, HE.out]; simp⟩
        case measure => simp [intOf]; omega
    · go_wp2
      go_ret
      obtain rfl : k = L.length := by omega
      rw [List.take_length]
      exact ⟨rfl, rfl⟩

/-- A bool; true only where the two lists pair up, each without repeats. -/
def Paired (L0 L1 : List ByteArray) (e : Ending) : Prop := ∃ bb, e = .returned (.bool bb) ∧ (bb = true → L0.length = L1.length ∧ (L0.map by8).Nodup ∧ (L1.map by8).Nodup)
theorem paired_no {L0 L1 : List ByteArray} : Paired L0 L1 (.returned (.bool false)) := ⟨_, rfl, fun h => by cases h⟩
theorem paired_yes {L0 L1 : List ByteArray} (h : L0.length = L1.length) (h0 : (L0.map by8).Nodup) (h1 : (L1.map by8).Nodup) : Paired L0 L1 (.returned (.bool true)) := ⟨_, rfl, fun _ => ⟨h, h0, h1⟩⟩

theorem nodup_snoc {L : List ByteArray} {s : ByteArray} (h : (L.map by8).Nodup) (hs : isIn L s = false) : ((L ++ [s]).map by8).Nodup := by
  rw [List.map_append, List.map_singleton, List.nodup_append]
  refine ⟨h, by simp, ?_⟩
  intro x hx y hy e
  rw [List.mem_singleton] at hy
  subst hy; subst e
  have : isIn L s = true := by unfold isIn; rw [List.contains_iff_mem]; exact hx
  rw [hs] at this; cases this
theorem hide_put {w1 : World} {b k : Nat} {D : DataW Unit} (h : w1.ownsMap Try.prog 9 (plainElem (H := Unit) Try.prog 4) b k D) : Hid (w1.ownsMap Try.prog 9 (plainElem (H := Unit) Try.prog 4) b k D) := h
theorem IsSet.beside {w w1 : World} {b b2 k : Nat} {L : List ByteArray} (h : IsSet w b2 k L) (hg : w.grownBy w1 (some b)) (hne : b2 ≠ b) : Hid (IsSet w1 b2 k L) :=
  World.ownsMap.kept h hg (fun e => hne (Option.some.inj e))
theorem below_put {B b : Nat} {w wr w1 : World} (h : Below B w wr) (hg : wr.grownBy w1 (some b)) (hb : B ≤ b) (hB : B ≤ w.heap.size) : Hid (Below B w w1) :=
  h.grown hg (Nat.le_trans hB h.size) (fun j hj => by cases hj; exact hb)
theorem set_start (w : World) (b : Nat) (hb : b = w.heap.size) : IsSet (w.alloc (.map #[] 0)) b 0 [] := by subst hb; exact World.ownsMap_made _ _ _ _

set_option maxRecDepth 100000 in
set_option maxHeartbeats 400000 in
theorem pairs_apart (a0 a1 : Option Addr) (c0 c1 : Nat) (L0 L1 : List ByteArray) (w : World) (hne : ¬ L0.length = L1.length) :
    Calls Try.prog 13 #[.slice a0 L0.length c0, .slice a1 L1.length c1] w fun e w' => Paired L0 L1 e ∧ Below w.heap.size w w' := by
  have hb : ((L0.length : Int) == (L1.length : Int)) = false := by rw [beq_eq_false_iff_ne]; omega
  clear hne
  go_enter Try.func13, Try.ntmps13
  go_wp2
  go_ret
  exact ⟨paired_no, Below.refl _ _⟩

set_option maxRecDepth 100000 in
set_option maxHeartbeats 1000000 in
theorem pairs_same (a0 a1 : Option Addr) (c0 c1 n : Nat) (L0 L1 : List ByteArray) (w : World) (h0 : StrRow w a0 L0) (h1 : StrRow w a1 L1) (hs0 : ∀ s ∈ L0, s.size ≤ maxLen) (hs1 : ∀ s ∈ L1, s.size ≤ maxLen)
    (hn0 : L0.length = n) (hn1 : L1.length = n) (hn : n ≤ 1048576) :
    Calls Try.prog 13 #[.slice a0 n c0, .slice a1 n c1] w fun e w' => Paired L0 L1 e ∧ Below w.heap.size w w' := by
  have HR0 : Hid (StrRow w a0 L0) := h0
  have HR1 : Hid (StrRow w a1 L1) := h1
  have HS0 : Hid (∀ s ∈ L0, s.size ≤ maxLen) := hs0
  have HS1 : Hid (∀ s ∈ L1, s.size ≤ maxLen) := hs1
  have HN0 : Hid (L0.length = n) := hn0
  have HN1 : Hid (L1.length = n) := hn1
  clear h0 h1 hs0 hs1 hn0 hn1
  have hmm := fun (k : Int) (W : World) => run_makeHint (P := Try.prog) (t := 38) Try.underlying38 k W
  go_enter Try.func13, Try.ntmps13
  go_wp2
  clear hmm
  go_loopw [7] (fun i wr => ∃ k : Nat, k ≤ n ∧ i = .int .i64 k ∧ Hid (IsSet wr w.heap.size k (L0.take k)) ∧ Hid (IsSet wr (w.heap.size + 1) k (L1.take k)) ∧ Hid (((L0.take k).map by8).Nodup ∧ ((L1.take k).map by8).Nodup) ∧ Hid (Below w.heap.size w wr)) (fun i _ => n - (intOf i).toNat)
  case atStart => exact ⟨0, Nat.zero_le _, rfl, (World.ownsMap_made _ _ _ _).alloc _, set_start _ _ (by simp), ⟨by simp, by simp⟩, ((Below.refl _ _).alloc (Nat.le_refl _) _).alloc (by simp) _⟩
  case round =>
    obtain ⟨k, hk, rfl, HM0, HM1, HD, HB⟩ := hrel
    by_cases hlt : k < n
    · have hlt0 : k < L0.length := by rw [HN0.out]; exact hlt
      have hlt1 : k < L1.length := by rw [HN1.out]; exact hlt
      have HL0 : Hid (k < L0.length) := hlt0
      have HL1 : Hid (k < L1.length) := hlt1
      obtain ⟨b0, o0, rfl, hb0, hc0⟩ := HR0.out.at k hlt0
      obtain ⟨b1, o1, rfl, hb1, hc1⟩ := HR1.out.at k hlt1
      have hx0 : wr.cell? ⟨b0, o0 + k, none⟩ = some (.string L0[k]) := by rw [HB.out.cell (p := ⟨b0, o0 + k, none⟩) hb0]; exact hc0
      have hx1 : wr.cell? ⟨b1, o1 + k, none⟩ = some (.string L1[k]) := by rw [HB.out.cell (p := ⟨b1, o1 + k, none⟩) hb1]; exact hc1
      have HC1 : Hid (w.cell? ⟨b1, o1 + k, none⟩ = some (.string L1[k])) := hc1
      have hq0 := HM0.out.look L0[k] (HS0.out _ (List.getElem_mem hlt0))
      have hq1 := HM1.out.look L1[k] (HS1.out _ (List.getElem_mem hlt1))
      have HK0 : Hid (keyOf Try.prog 9 (.string L0[k]) = some (keyL L0[k])) := WideMaps.keyOf_string_mk Try.underlying9 (HS0.out _ (List.getElem_mem hlt0))
      have HK1 : Hid (keyOf Try.prog 9 (.string L1[k]) = some (keyL L1[k])) := WideMaps.keyOf_string_mk Try.underlying9 (HS1.out _ (List.getElem_mem hlt1))
      clear hc0 hc1
      generalize hs0 : L0[k] = s0 at hx0 hq0 HK0
      generalize hs1 : L1[k] = s1 at hx1 hq1 HK1 HC1
      have HS0' : Hid (L0[k] = s0) := hs0
      have HS1' : Hid (L1[k] = s1) := hs1
      clear hs0 hs1 hlt0 hlt1
      cases hin0 : isIn (L0.take k) s0
      · rw [hin0] at hq0
        have HI0 : Hid (isIn (L0.take k) s0 = false) := hin0
        clear hin0
        cases hin1 : isIn (L1.take k) s1
        · rw [hin1] at hq1
          have HI1 : Hid (isIn (L1.take k) s1 = false) := hin1
          clear hin1
          go_wp2_with (first
            | (at_mapUpdate; refine wpList_mapUpdate_own _ rfl _ _ _ 38 rfl 9 4 law Try.underlying38 (plainElem (H := Unit) Try.prog 4) w.heap.size k _ rfl HM0.out (by unfold maxLen; omega) _ _ _ rfl rfl HK0.out yes [] (plainElem_bool Try.underlying4 true) ?_; intro w1 hown1 hgrow1; have HB1 := below_put HB.out hgrow1 (Nat.le_refl _) (Nat.le_refl _); have HM11 := HM1.out.beside hgrow1 (by omega); have hx11 := (HB1.out.cell (p := ⟨b1, o1 + k, none⟩) hb1).trans HC1.out; have HG1 := hide_put hown1; clear hown1 hgrow1 hx0 hx1 hq0 hq1)
            | (at_mapUpdate; refine wpList_mapUpdate_own _ rfl _ _ _ 38 rfl 9 4 law Try.underlying38 (plainElem (H := Unit) Try.prog 4) (w.heap.size + 1) k _ rfl HM11.out (by unfold maxLen; omega) _ _ _ rfl rfl HK1.out yes [] (plainElem_bool Try.underlying4 true) ?_; intro w2 hown2 hgrow2)
            | go_in)
          have l0 : k < L0.length := HL0.out
          have l1 : k < L1.length := HL1.out
          have e0 : L0[k] = s0 := HS0'.out
          have e1 : L1[k] = s1 := HS1'.out
          have M0 : IsSet w1 w.heap.size (k + 1) (L0.take (k + 1)) := by
            show w1.ownsMap Try.prog 9 (plainElem (H := Unit) Try.prog 4) w.heap.size (k + 1) (setD (L0.take (k + 1)))
            rw [take_snocB L0 k l0, setD_snoc, e0]; exact HG1.out
          have M1 : Hid (IsSet w2 (w.heap.size + 1) (k + 1) (L1.take (k + 1))) := by
            show w2.ownsMap Try.prog 9 (plainElem (H := Unit) Try.prog 4) (w.heap.size + 1) (k + 1) (setD (L1.take (k + 1)))
            rw [take_snocB L1 k l1, setD_snoc, e1]; exact hown2
          have M0' := M0.beside hgrow2 (by omega)
          have HB2 := below_put HB1.out hgrow2 (by omega) (Nat.le_refl _)
          have HD2 : Hid (((L0.take (k + 1)).map by8).Nodup ∧ ((L1.take (k + 1)).map by8).Nodup) := by
            refine ⟨?_, ?_⟩
            · rw [take_snocB L0 k l0]; exact nodup_snoc HD.out.1 (by rw [e0]; exact HI0.out)
            · rw [take_snocB L1 k l1]; exact nodup_snoc HD.out.2 (by rw [e1]; exact HI1.out)
          go_roundw
          case rel => exact ⟨k + 1, by omega, by go_num, M0', M1, HD2, HB2⟩
          case measure => simp [intOf]; omega
        · rw [hin1] at hq1
          clear hin1
          go_wp2
          go_ret
          exact ⟨paired_no, HB.out⟩
      · rw [hin0] at hq0
        clear hin0
        go_wp2
        go_ret
        exact ⟨paired_no, HB.out⟩
    · go_wp2
      go_ret
      obtain rfl : k = n := by omega
      refine ⟨?_, HB.out⟩
      have h9 := HD.out
      rw [List.take_of_length_le (by rw [HN0.out]; exact Nat.le_refl _), List.take_of_length_le (by rw [HN1.out]; exact Nat.le_refl _)] at h9
      exact paired_yes (by rw [HN0.out, HN1.out]) h9.1 h9.2

theorem pairs_any (a0 a1 : Option Addr) (c0 c1 : Nat) (L0 L1 : List ByteArray) (w : World) (h0 : StrRow w a0 L0) (h1 : StrRow w a1 L1) (hs0 : ∀ s ∈ L0, s.size ≤ maxLen) (hs1 : ∀ s ∈ L1, s.size ≤ maxLen) (hn : L0.length ≤ 1048576) :
    Calls Try.prog 13 #[.slice a0 L0.length c0, .slice a1 L1.length c1] w fun e w' => Paired L0 L1 e ∧ Below w.heap.size w w' := by
  by_cases h : L0.length = L1.length
  · rw [← h]
    exact pairs_same a0 a1 c0 c1 L0.length L0 L1 w h0 h1 hs0 hs1 rfl h.symm hn
  · exact pairs_apart a0 a1 c0 c1 L0 L1 w h
end Go.Proofs.Qxb6609138a
