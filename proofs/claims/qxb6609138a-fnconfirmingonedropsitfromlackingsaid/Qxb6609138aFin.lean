/-
  What share.lacking hands back, as strings: sorted, without repeats, the names that are not confirmed.
-/
import Derived.Test.Qxb6609138aNames
import Derived.Laws.OwnMore
import Derived.Sort.Walk0
namespace Go.Proofs.Qxb6609138a
open Go.RowKit
open Go.Maps Go.Sort
open Plain

def toB (x : List UInt8) : ByteArray := ⟨x.toArray⟩
theorem by8_toB (x : List UInt8) : by8 (toB x) = x := by simp [by8, toB]
theorem toB_by8 (s : ByteArray) : toB (by8 s) = s := by obtain ⟨d⟩ := s; simp [by8, toB]
theorem by8_inj {s t : ByteArray} (h : by8 s = by8 t) : s = t := by rw [← toB_by8 s, ← toB_by8 t, h]
def fin (C L1 : List ByteArray) : List ByteArray := (final C L1).map toB

theorem rest_notIn (C L : List ByteArray) : rest (C.map by8) (L.map by8) = (notIn C L).map by8 := by
  unfold rest notIn
  rw [List.filter_map]
  rfl
theorem fin_length (C L1 : List ByteArray) : (fin C L1).length = (notIn C L1).length := by
  unfold fin final
  rw [List.length_map, List.length_mergeSort, rest_notIn, List.length_map]
theorem fin_len2 (C L1 : List ByteArray) : (final C L1).length = (fin C L1).length := by unfold fin; simp
theorem fin_mem {C L1 : List ByteArray} {s : ByteArray} (h : s ∈ fin C L1) : isIn L1 s = true ∧ isIn C s = false ∧ s ∈ L1 := by
  unfold fin at h
  obtain ⟨x, hx, rfl⟩ := List.mem_map.1 h
  unfold final at hx
  rw [List.mem_mergeSort] at hx
  unfold rest at hx
  obtain ⟨h1, h2⟩ := List.mem_filter.1 hx
  unfold isIn
  rw [by8_toB]
  refine ⟨List.contains_iff_mem.2 h1, by simpa using h2, ?_⟩
  obtain ⟨t, ht, rfl⟩ := List.mem_map.1 h1
  rw [toB_by8]; exact ht
theorem final_sorted (C L1 : List ByteArray) : (final C L1).Pairwise (fun x y => x ≤ y) := by
  have h := List.pairwise_mergeSort (le := fun x y : List UInt8 => decide (x ≤ y)) (fun a b c h1 h2 => by simp only [decide_eq_true_eq] at *; exact List.le_trans h1 h2) (fun a b => by simp only [Bool.or_eq_true, decide_eq_true_eq]; exact List.le_total a b) (rest (C.map by8) (L1.map by8))
  unfold final
  exact h.imp (fun h => by simpa using h)
theorem final_nodup {C L1 : List ByteArray} (hd : (L1.map by8).Nodup) : (final C L1).Nodup := by
  unfold final
  exact (List.mergeSort_perm _ _).nodup_iff.2 (hd.filter _)
theorem final_lt {C L1 : List ByteArray} (hd : (L1.map by8).Nodup) (i j : Nat) (hij : i < j) (hj : j < (final C L1).length) : (final C L1)[i]'(Nat.lt_trans hij hj) < (final C L1)[j] := by
  have h1 := List.pairwise_iff_getElem.1 (final_sorted C L1) i j (Nat.lt_trans hij hj) hj hij
  have h2 := List.pairwise_iff_getElem.1 (final_nodup (C := C) hd) i j (Nat.lt_trans hij hj) hj hij
  rcases Decidable.em ((final C L1)[i]'(Nat.lt_trans hij hj) < (final C L1)[j]) with h | h
  · exact h
  · exact absurd (List.le_antisymm h1 (List.not_lt.1 h)) h2
theorem fin_at {C L1 : List ByteArray} (k : Nat) (hk : k < (fin C L1).length) : (fin C L1)[k] = toB ((final C L1)[k]'(by rw [fin_len2]; exact hk)) := by
  simp only [fin, List.getElem_map]
theorem fin_less {C L1 : List ByteArray} (hd : (L1.map by8).Nodup) (i j : Nat) (hij : i < j) (hj : j < (fin C L1).length) : Op.bytesLess ((fin C L1)[i]'(Nat.lt_trans hij hj)).toList ((fin C L1)[j]).toList = true := by
  rw [bytesLess_eq]
  have h := final_lt hd i j hij (by rw [fin_len2]; exact hj)
  have e : ∀ k (hk : k < (fin C L1).length), ((fin C L1)[k]).toList = (final C L1)[k]'(by rw [fin_len2]; exact hk) := by
    intro k hk
    rw [Lib.toList_data, fin_at k hk]
    exact by8_toB _
  rw [e, e]
  exact decide_eq_true h

/-- Confirming x takes x away, nothing else. -/
theorem fin_snoc (C L1 : List ByteArray) (x : ByteArray) : fin (C ++ [x]) L1 = (fin C L1).filter (fun s => !(by8 s == by8 x)) := by
  have e : final (C ++ [x]) L1 = (final C L1).filter (fun s => !(s == by8 x)) := by
    have h1 : rest ((C ++ [x]).map by8) (L1.map by8) = (rest (C.map by8) (L1.map by8)).filter (fun s => !(s == by8 x)) := by
      unfold rest
      rw [List.filter_filter]
      congr 1
      funext s
      rw [List.map_append, List.map_singleton, List.contains_append]
      rw [Bool.not_or, Bool.and_comm]
      simp only [List.contains_cons, List.contains_nil, Bool.or_false]
    have hp : (rest ((C ++ [x]).map by8) (L1.map by8)).Perm ((final C L1).filter (fun s => !(s == by8 x))) := by
      rw [h1]
      exact (List.mergeSort_perm _ _).symm.filter _
    refine List.Perm.eq_of_pairwise (le := fun a b : List UInt8 => a ≤ b) (fun a b _ _ h1 h2 => List.le_antisymm h1 h2) (final_sorted _ _) ((final_sorted C L1).filter _) ?_
    unfold final at hp ⊢
    exact (List.mergeSort_perm _ _).trans hp
  unfold fin
  rw [e, List.filter_map]
  congr 1

theorem row_of_own {w : World} {base : Nat} {ao : Option Addr} {n cap : Nat} {C L1 : List ByteArray} (h : w.ownsRow base 9 1 (.slice ao n cap) (final C L1).length ((final C L1).map encStr)) : StrRow w ao (fin C L1) := by
  rcases h.2 with ⟨_, h0⟩ | ⟨g, cap', cur, hv, hbase, hg, h1, h2, h3, h4⟩
  · left
    exact List.eq_nil_of_length_eq_zero (by rw [← fin_len2]; exact h0)
  · right
    injection hv with e1 e2 e3
    subst e1
    refine ⟨g, 0, rfl, (Array.getElem?_eq_some_iff.1 hg).1, fun i hi => ?_⟩
    subst e2; subst e3
    have hc := h.cellAt i (by rw [fin_len2, Nat.mul_one]; exact hi)
    rw [Nat.zero_add, hc, List.getElem?_map, List.getElem?_eq_getElem (by rw [fin_len2]; exact hi), fin_at i hi]
    rfl

theorem lackB (pm cb nc sb : Nat) (L0 L1 C : List ByteArray) (w : World)
    (hs4 : w.cell? ⟨sb, 4, none⟩ = some (.map (some pm))) (hs9 : w.cell? ⟨sb, 9, none⟩ = some (.map (some cb)))
    (hm : IsSet w cb nc C) (hp : IsPart w pm L0.length L0 L1) (hn1 : L1.length = L0.length) (hn : L0.length ≤ 1048576) (hd0 : (L0.map by8).Nodup) (hs1 : ∀ s ∈ L1, s.size ≤ maxLen) (hpb : pm + L0.length < w.heap.size) :
    Calls Try.prog 15 #[.pointer (some ⟨sb, 0, none⟩)] w fun e w' => ∃ ao cap, e = .returned (.slice ao (fin C L1).length cap) ∧ StrRow w' ao (fin C L1) ∧ Below w.heap.size w w' := by
  refine (lack15 pm cb nc sb L0 L1 C w hs4 hs9 hm hp hn1 hn hd0 hs1 hpb).mono ?_
  rintro e w' ⟨ao, cap, rfl, ho, hb⟩
  exact ⟨ao, cap, by rw [fin_len2], row_of_own ho, hb⟩

/-- The next one that stays. -/
theorem filter_next {α : Type} (p : α → Bool) : ∀ (l : List α) (i : Nat) (h : i < l.length), p l[i] = true → (l.filter p)[((l.take i).filter p).length]? = some l[i]
  | [], i, h, _ => by simp at h
  | a :: l, 0, _, hp => by simp at hp; simp [hp]
  | a :: l, i + 1, h, hp => by
    have ih := filter_next p l i (by simpa using h) (by simpa using hp)
    rw [List.take_succ_cons, List.filter_cons, List.filter_cons]
    cases p a
    · simpa using ih
    · simpa using ih
theorem filter_snoc {α : Type} (p : α → Bool) (l : List α) (i : Nat) (h : i < l.length) : (l.take (i + 1)).filter p = (l.take i).filter p ++ (if p l[i] then [l[i]] else []) := by
  rw [List.take_succ_eq_append_getElem h, List.filter_append]
  cases hp : p l[i] <;> simp [hp]
end Go.Proofs.Qxb6609138a
