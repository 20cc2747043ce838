/-
  Plain mathematics of decimal numerals: no Go in it.
-/
import Derived.Lib.ParseIntB
namespace Go.Proofs.Qxb6608537aDoor.Plain

/-- A byte that is a decimal digit. -/
def dig (c : UInt8) : Bool := decide (48 ≤ c.toNat ∧ c.toNat ≤ 57)

/-- The number that the bytes spell behind 'acc'. -/
def valFrom (acc : Nat) (l : List UInt8) : Nat := l.foldl (fun a c => a * 10 + (c.toNat - 48)) acc

def val (l : List UInt8) : Nat := valFrom 0 l

/-- What parseLength answers: the value, or none. -/
def plen (l : List UInt8) : Option Nat := if l ≠ [] ∧ l.all dig = true ∧ val l ≤ 9223372036854775807 then some (val l) else none

theorem valFrom_nil (acc : Nat) : valFrom acc [] = acc := by unfold valFrom; exact List.foldl_nil
theorem valFrom_cons (acc : Nat) (c : UInt8) (r : List UInt8) : valFrom acc (c :: r) = valFrom (acc * 10 + (c.toNat - 48)) r := by unfold valFrom; exact List.foldl_cons ..

theorem le_valFrom (l : List UInt8) : ∀ (acc : Nat), acc ≤ valFrom acc l := by
  induction l with
  | nil => intro acc; rw [valFrom_nil]; exact Nat.le_refl _
  | cons c r ih =>
    intro acc
    have h := ih (acc * 10 + (c.toNat - 48))
    rw [valFrom_cons]
    generalize valFrom (acc * 10 + (c.toNat - 48)) r = x at *
    omega

theorem valFrom_append (l : List UInt8) : ∀ (m : List UInt8) (acc : Nat), valFrom acc (l ++ m) = valFrom (valFrom acc l) m := by
  induction l with
  | nil => intro m acc; rw [List.nil_append, valFrom_nil]
  | cons c r ih => intro m acc; rw [List.cons_append, valFrom_cons, valFrom_cons, ih]

theorem valFrom_shift (l : List UInt8) : ∀ (acc : Nat), valFrom acc l = acc * 10 ^ l.length + valFrom 0 l := by
  induction l with
  | nil => intro acc; rw [valFrom_nil, valFrom_nil, List.length_nil, Nat.pow_zero]; omega
  | cons c r ih =>
    intro acc
    rw [valFrom_cons, valFrom_cons, ih (acc * 10 + (c.toNat - 48)), ih (0 * 10 + (c.toNat - 48)), List.length_cons, Nat.pow_succ, Nat.add_mul]
    have h1 : acc * 10 * 10 ^ r.length = acc * (10 ^ r.length * 10) := by rw [Nat.mul_assoc, Nat.mul_comm 10]
    rw [h1]; simp only [Nat.zero_mul, Nat.zero_add]
    generalize (c.toNat - 48) * 10 ^ r.length = y
    generalize acc * (10 ^ r.length * 10) = z
    omega

theorem val_append (a b : List UInt8) : val (a ++ b) = val a * 10 ^ b.length + val b := by
  unfold val; rw [valFrom_append, valFrom_shift b]

theorem val_snoc (l : List UInt8) (c : UInt8) : val (l ++ [c]) = val l * 10 + (c.toNat - 48) := by
  rw [val_append]; simp [val, valFrom_cons, valFrom_nil]

theorem dig_iff {c : UInt8} : dig c = true ↔ 48 ≤ c.toNat ∧ c.toNat ≤ 57 := by unfold dig; exact decide_eq_true_iff

theorem val_lt (l : List UInt8) : l.all dig = true → val l < 10 ^ l.length := by
  induction l with
  | nil => intro _; simp [val, valFrom_nil]
  | cons c r ih =>
    intro h
    simp only [List.all_cons, Bool.and_eq_true] at h
    have h1 := ih h.2
    have h2 := dig_iff.1 h.1
    have e : val (c :: r) = val ([c] ++ r) := rfl
    rw [e, val_append]
    have e2 : val [c] = c.toNat - 48 := by simp [val, valFrom_cons, valFrom_nil]
    rw [e2, List.length_cons, Nat.pow_succ]
    have h3 : c.toNat - 48 ≤ 9 := by omega
    have h4 := Nat.mul_le_mul_right (10 ^ r.length) h3
    omega

theorem val_ge (c : UInt8) (r : List UInt8) (h : 49 ≤ c.toNat) : 10 ^ r.length ≤ val (c :: r) := by
  have e : val (c :: r) = val ([c] ++ r) := rfl
  rw [e, val_append]
  have e2 : val [c] = c.toNat - 48 := by simp [val, valFrom_cons, valFrom_nil]
  rw [e2]
  have h4 := Nat.mul_le_mul_right (10 ^ r.length) (show 1 ≤ c.toNat - 48 by omega)
  omega

theorem parseUintM_digits (M : Nat) (hM : M = 18446744073709551615) (l : List UInt8) : ∀ (acc : Nat), l.all dig = true → acc ≤ M →
    Lib.parseUintM M acc l = if valFrom acc l ≤ M then .ok (valFrom acc l) else .range := by
  induction l with
  | nil => intro acc _ ha; rw [valFrom_nil, if_pos ha]; rfl
  | cons c r ih =>
    intro acc h ha
    simp only [List.all_cons, Bool.and_eq_true] at h
    have h2 := dig_iff.1 h.1
    have hl := le_valFrom r (acc * 10 + (c.toNat - 48))
    have hi := ih (acc * 10 + (c.toNat - 48)) h.2
    rw [valFrom_cons]
    generalize valFrom (acc * 10 + (c.toNat - 48)) r = x at *
    simp only [Lib.parseUintM]
    rw [if_pos h2]
    by_cases h3 : 1844674407370955162 ≤ acc
    · rw [if_pos h3, if_neg (by omega)]
    · rw [if_neg h3]
      by_cases h4 : M < acc * 10 + (c.toNat - 48)
      · rw [if_pos h4, if_neg (by omega)]
      · rw [if_neg h4, hi (by omega)]

/-- Of a list of digits that is not empty strconv's parse gives the value, or says that it is out of range. -/
theorem parse_digits (l : List UInt8) (hne : l ≠ []) (h : l.all dig = true) :
    Lib.parseIntB 64 l = if val l ≤ 9223372036854775807 then .ok (val l : Int) else .range := by
  obtain ⟨c, r, rfl⟩ : ∃ c r, l = c :: r := by cases l with
    | nil => exact absurd rfl hne
    | cons c r => exact ⟨c, r, rfl⟩
  have h2 : 48 ≤ c.toNat ∧ c.toNat ≤ 57 := by
    simp only [List.all_cons, Bool.and_eq_true] at h
    exact dig_iff.1 h.1
  have e1 : (2 : Nat) ^ 64 - 1 = 18446744073709551615 := by decide
  have e2 : (2 : Nat) ^ (64 - 1) = 9223372036854775808 := by decide
  have hp := parseUintM_digits _ rfl (c :: r) 0 h (by omega)
  simp only [Lib.parseIntB, Lib.parseUintB]
  rw [if_neg (by omega : ¬ (c.toNat = 43 ∨ c.toNat = 45)), if_neg (by simp), e1, hp]
  have ev : valFrom 0 (c :: r) = val (c :: r) := rfl
  rw [ev]
  by_cases h3 : val (c :: r) ≤ 18446744073709551615
  · rw [if_pos h3]
    by_cases h4 : val (c :: r) ≤ 9223372036854775807
    · rw [if_pos h4]
      simp only [e2]
      rw [if_neg (by omega), if_neg (by omega), if_neg (by omega)]
    · rw [if_neg h4]
      simp only [e2]
      rw [if_pos (by omega)]
  · rw [if_neg h3, if_neg (by omega)]

theorem plen_some {l : List UInt8} {v : Nat} (h : plen l = some v) : l ≠ [] ∧ l.all dig = true ∧ val l ≤ 9223372036854775807 ∧ v = val l := by
  unfold plen at h
  by_cases hc : l ≠ [] ∧ l.all dig = true ∧ val l ≤ 9223372036854775807
  · rw [if_pos hc] at h
    exact ⟨hc.1, hc.2.1, hc.2.2, (Option.some.inj h).symm⟩
  · rw [if_neg hc] at h; cases h

theorem plen_mk {l : List UInt8} (h1 : l ≠ []) (h2 : l.all dig = true) (h3 : val l ≤ 9223372036854775807) : plen l = some (val l) := by
  unfold plen; rw [if_pos ⟨h1, h2, h3⟩]

theorem plen_nil : plen [] = none := by simp [plen]
theorem plen_nondig {l : List UInt8} (h : l.all dig = false) : plen l = none := by simp [plen, h]
theorem plen_big {l : List UInt8} (h : 9223372036854775807 < val l) : plen l = none := by
  unfold plen; rw [if_neg (by omega)]

theorem take_snoc (l : List UInt8) (k : Nat) (h : k < l.length) : l.take (k + 1) = l.take k ++ [l[k]] :=
  List.take_succ_eq_append_getElem h

theorem val_take_le (l : List UInt8) (k : Nat) : val (l.take k) ≤ val l := by
  have e : val l = val (l.take k ++ l.drop k) := by rw [List.take_append_drop]
  rw [e]; unfold val; rw [valFrom_append]; exact le_valFrom _ _

theorem all_take_snoc (l : List UInt8) (k : Nat) (h : k < l.length) : (l.take (k + 1)).all dig = ((l.take k).all dig && dig l[k]) := by
  rw [take_snoc l k h, List.all_append]; simp

theorem all_false_of {l : List UInt8} {k : Nat} (h : k < l.length) (hd : dig l[k] = false) : l.all dig = false := by
  rw [List.all_eq_false]
  exact ⟨l[k], List.getElem_mem h, by simp [hd]⟩

end Go.Proofs.Qxb6608537aDoor.Plain
