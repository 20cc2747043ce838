/-
  Plain facts on lists: names by items, what is left, sorted lists.
-/
import Derived.Sort.KeysCollected
namespace Go.Proofs.Qxb6609138a.Plain

/-- The name that goes with the item x. -/
def nm (K0 K1 : List (List UInt8)) (x : List UInt8) : List UInt8 := K1.getD (K0.idxOf x) []
/-- Those of l that are not among C. -/
def rest (C l : List (List UInt8)) : List (List UInt8) := l.filter fun s => !C.contains s

theorem nm_at {K0 K1 : List (List UInt8)} (hd : K0.Nodup) (i : Nat) (h0 : i < K0.length) (h1 : i < K1.length) : nm K0 K1 K0[i] = K1[i] := by
  unfold nm
  rw [List.Nodup.idxOf_getElem hd i h0]
  simp [List.getD, h1]
theorem map_nm {K0 K1 : List (List UInt8)} (hd : K0.Nodup) (hl : K0.length = K1.length) : K0.map (nm K0 K1) = K1 := by
  apply List.ext_getElem
  · simpa using hl
  · intro i h0 h1
    simp only [List.getElem_map]
    exact nm_at hd i (by simpa using h0) h1
theorem rest_perm {C l l' : List (List UInt8)} (h : l.Perm l') : (rest C l).Perm (rest C l') := h.filter _
theorem rest_snoc (C l : List (List UInt8)) (x : List UInt8) : rest C (l ++ [x]) = rest C l ++ (if C.contains x then [] else [x]) := by
  unfold rest
  rw [List.filter_append]
  cases h : C.contains x
  · rw [List.filter_cons_of_pos (by rw [h]; rfl)]; rfl
  · rw [List.filter_cons_of_neg (by rw [h]; decide)]; rfl
theorem rest_len (C l : List (List UInt8)) : (rest C l).length ≤ l.length := List.length_filter_le _ _
theorem perm_of_mem {l l' : List (List UInt8)} (h : l.Nodup) (h' : l'.Nodup) (hm : ∀ x, x ∈ l ↔ x ∈ l') : l.Perm l' := by
  exact (List.perm_ext_iff_of_nodup h h').2 hm
end Go.Proofs.Qxb6609138a.Plain
