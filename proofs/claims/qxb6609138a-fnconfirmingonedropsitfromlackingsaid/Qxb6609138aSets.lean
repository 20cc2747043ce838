/-
  Sets of strings that the call makes ('map[string]bool'): what they hold, look-ups, zzSet, zzCountUnconfirmed.
-/
import Derived.Test.Qxb6609138aBytes
import Derived.Maps.Own
import Derived.Maps.OwnOps
import Derived.Maps.Views
import Derived.ProofKit
namespace Go.Proofs.Qxb6609138a
open Go.RowKit
open Go.Maps

theorem law : Keyed Try.prog 9 := string_keyed Try.underlying9
theorem zero4 (w : World) : (zeroValue 4).run Try.prog w = .ok (.bool false) w := by kernel_rfl

/-- The bytes of a string. -/
def by8 (s : ByteArray) : List UInt8 := s.data.toList
/-- Is s among them? -/
def isIn (L : List ByteArray) (s : ByteArray) : Bool := (L.map by8).contains (by8 s)
def yes : DataW Unit := .lit (.bool true)
def keyL (s : ByteArray) : Lit := .string (by8 s)
def setD (L : List ByteArray) : DataW Unit := setOf yes (L.map keyL)
/-- Block b is the set of these strings, of at most n entries. -/
def IsSet (w : World) (b n : Nat) (L : List ByteArray) : Prop := w.ownsMap Try.prog 9 (plainElem (H := Unit) Try.prog 4) b n (setD L)

theorem keyL_ok (L : List ByteArray) : ∀ x ∈ L.map keyL, WideAt.IsKeyLit x := by
  intro x hx
  obtain ⟨s, _, rfl⟩ := List.mem_map.1 hx
  trivial
theorem setD_snoc (L : List ByteArray) (s : ByteArray) : setD (L ++ [s]) = (setD L).put (keyL s) yes := by
  unfold setD
  rw [List.map_append, List.map_singleton, setOf_snoc]
theorem any_keys (L : List ByteArray) (s : ByteArray) : (L.map keyL).any (fun x => x.sameKey (keyL s)) = isIn L s := by
  unfold isIn
  induction L with
  | nil => rfl
  | cons a L ih =>
    rw [List.map_cons, List.any_cons, ih, List.map_cons, List.contains_cons]
    have e : (keyL a).sameKey (keyL s) = (by8 s == by8 a) := by
      show (by8 a == by8 s) = (by8 s == by8 a)
      exact Bool.beq_comm
    rw [e]
theorem at_fold (k : Lit) (z : DataW Unit) : ∀ (acc : List Lit) (m : DataW Unit), IsMap m → (∀ x ∈ acc, WideAt.IsKeyLit x) → (acc.foldl (fun m x => m.put x yes) m).atKey k z = if acc.any (fun x => x.sameKey k) then yes else m.atKey k z := by
  intro acc
  induction acc with
  | nil => intro m _ _; simp
  | cons x acc ih =>
    intro m hm hx
    rw [List.foldl_cons, ih (m.put x yes) (hm.put x yes) (fun y hy => hx y (List.mem_cons_of_mem _ hy)), List.any_cons]
    by_cases h : acc.any (fun x => x.sameKey k) = true
    · rw [if_pos h, if_pos (by simp [h])]
    · rw [if_neg h]
      have hf : acc.any (fun x => x.sameKey k) = false := by simpa using h
      rw [hf, Bool.or_false]
      by_cases hk : k = x
      · subst hk
        rw [atKey_put_same hm (hx k List.mem_cons_self), if_pos]
        have := hx k List.mem_cons_self
        cases k <;> simp [Lit.sameKey] <;> simp [WideAt.IsKeyLit] at this
      · rw [atKey_put_other hk, if_neg]
        rw [sameKey_ne (fun e => hk e.symm)]; exact Bool.false_ne_true
theorem at_setD (L : List ByteArray) (s : ByteArray) (z : DataW Unit) : (setD L).atKey (keyL s) z = if isIn L s then yes else z := by
  unfold setD setOf
  rw [at_fold (keyL s) z (L.map keyL) (.map []) isMap_empty (keyL_ok L), any_keys]
  rfl

theorem plainElem_bool_inv {P : Program} {e : TypeId} (he : P.underlying e = some .bool) {v : Value} {z : DataW Unit × List MemPlace} (h : plainElem (H := Unit) P e v = some z) : ∃ x, v = .bool x ∧ z = (.lit (.bool x), []) := by
  unfold plainElem at h
  rw [he] at h
  cases v <;> simp at h
  exact ⟨_, rfl, h.symm⟩

/-- 'm[s]' in such a set. -/
theorem IsSet.look {w : World} {b n : Nat} {L : List ByteArray} (h : IsSet w b n L) (s : ByteArray) (hs : s.size ≤ maxLen) :
    (Instr.lookup 38 (.map (some b)) (.string s) false).run Try.prog w = .ok (.bool (isIn L s)) w := by
  obtain ⟨v, ps, hrun, hv⟩ := World.ownsMap.lookup h law Try.underlying38 (zero4 w) (plainElem_bool Try.underlying4 false) (WideMaps.keyOf_string_mk (s := s) Try.underlying9 hs)
  obtain ⟨x, rfl, hx⟩ := plainElem_bool_inv Try.underlying4 hv
  rw [hrun]
  have e := at_setD L s (.lit (.bool false))
  have e2 : (setD L).atKey (.string s.data.toList) (.lit (.bool false)) = .lit (.bool x) := (Prod.mk.inj hx).1
  have e3 : (if isIn L s then yes else .lit (.bool false)) = (.lit (.bool x) : DataW Unit) := e.symm.trans e2
  cases hin : isIn L s
  · rw [hin] at e3
    simp at e3
    rw [← e3]
  · rw [hin] at e3
    simp [yes] at e3
    rw [← e3]
theorem IsSet.below {w w1 : World} {B b n : Nat} {L : List ByteArray} (h : IsSet w b n L) (hb : Below B w w1) (hlt : b < B) : IsSet w1 b n L := by
  obtain ⟨es, clock, h1, h2⟩ := h
  exact ⟨es, clock, by rw [hb.block b hlt]; exact h1, h2⟩

/-- 'make(map[..].., n)'. -/
theorem run_makeHint {P : Program} {t k e : TypeId} (ht : P.underlying t = some (.map k e)) (n : Int) (w : World) :
    (Instr.makeMap t (some (.int .i64 n))).run P w = .ok (.map (some w.heap.size)) (w.alloc (.map #[] 0)) := by
  unfold Instr.makeMap
  simp [run_underlying ht, asInt]
  rfl

theorem take_snocB (L : List ByteArray) (k : Nat) (h : k < L.length) : L.take (k + 1) = L.take k ++ [L[k]] := List.take_succ_eq_append_getElem h

set_option maxRecDepth 100000 in
set_option maxHeartbeats 400000 in
theorem set_any (a : Option Addr) (c : Nat) (L : List ByteArray) (w : World) (hr : StrRow w a L) (hs : ∀ s ∈ L, s.size ≤ maxLen) (hL : L.length ≤ 1048576) :
    Calls Try.prog 14 #[.slice a L.length c] w fun e w' => e = .returned (.map (some w.heap.size)) ∧ IsSet w' w.heap.size L.length L ∧ Below w.heap.size w w' := by
  have HR : Hid (StrRow w a L) := hr
  have HS : Hid (∀ s ∈ L, s.size ≤ maxLen) := hs
  clear hr hs
  have hmm := fun n => run_makeHint Try.underlying38 n w
  go_enter Try.func14, Try.ntmps14
  go_wp2
  clear hmm
  go_loopw [4] (fun i wr => ∃ k : Nat, k ≤ L.length ∧ i = .int .i64 k ∧ Hid (IsSet wr w.heap.size k (L.take k)) ∧ Hid (Below w.heap.size w wr)) (fun i _ => L.length - (intOf i).toNat)
  case atStart => exact ⟨0, Nat.zero_le _, rfl, World.ownsMap_made _ _ _ _, (Below.refl _ _).alloc (Nat.le_refl _) _⟩
  case round =>
    obtain ⟨k, hk, rfl, HM, HB⟩ := hrel
    by_cases hlt : k < L.length
    · obtain ⟨b, o, rfl, hb, hc⟩ := (HR.out.below HB.out).at k hlt
      have hlen : L[k].size ≤ maxLen := HS.out _ (List.getElem_mem hlt)
      have hkey : keyOf Try.prog 9 (.string L[k]) = some (keyL L[k]) := WideMaps.keyOf_string_mk Try.underlying9 hlen
      have HK : Hid (keyOf Try.prog 9 (.string L[k]) = some (keyL L[k])) := hkey
      clear hkey hlen
      go_wp2_with (first
        | (at_mapUpdate; refine wpList_mapUpdate_own _ rfl _ _ _ 38 rfl 9 4 law Try.underlying38 (plainElem (H := Unit) Try.prog 4) w.heap.size k _ rfl HM.out (by unfold maxLen; omega) _ _ _ rfl rfl HK.out yes [] (plainElem_bool Try.underlying4 true) ?_; intro w1 hown1 hgrow1)
        | go_in)
      have HM1 : Hid (IsSet w1 w.heap.size (k + 1) (L.take (k + 1))) := by
        show w1.ownsMap Try.prog 9 (plainElem (H := Unit) Try.prog 4) w.heap.size (k + 1) (setD (L.take (k + 1)))
        rw [take_snocB L k hlt, setD_snoc]; exact hown1
      have HB1 : Hid (Below w.heap.size w w1) := HB.out.grown hgrow1 HB.out.size (fun j hj => by cases hj; exact Nat.le_refl _)
      clear hown1 hgrow1
      go_wp2
      go_roundw
      case rel => exact ⟨k + 1, by omega, by go_num, HM1, HB1⟩
      case measure => simp [intOf]; omega
    · go_wp2
      go_ret
      obtain rfl : k = L.length := by omega
      refine ⟨rfl, ?_, HB.out⟩
      have h9 := HM.out
      rw [List.take_length] at h9
      exact h9
end Go.Proofs.Qxb6609138a
