/-
  Plain mathematics of the registers' names: decimal numerals, eight hex digits, the order of byte strings.
-/
import Derived.Test.Qxb6608912aFmtStr
import GoSem.Op.String
namespace Go.Proofs.Qxb6608912aFmt
open Go.Extern

/-! ### Decimal numerals -/
/-- The digits of m; nothing for 0. -/
def decP (m : Nat) : List UInt8 := if m = 0 then [] else Lib.decDigits m

theorem dec_small {u : Nat} (h : u < 10) : Lib.decDigits u = [UInt8.ofNat (48 + u)] := by rw [Lib.decDigits, dif_pos h]
theorem dec_big {u : Nat} (h : ¬ u < 10) : Lib.decDigits u = Lib.decDigits (u / 10) ++ [UInt8.ofNat (48 + u % 10)] := by rw [Lib.decDigits, dif_neg h]
theorem decP_step {m : Nat} (h : 0 < m) : decP m = decP (m / 10) ++ [UInt8.ofNat (48 + m % 10)] := by
  unfold decP
  rw [if_neg (by omega)]
  by_cases h10 : m < 10
  · rw [dec_small h10, if_pos (by omega), show m % 10 = m from by omega]; rfl
  · rw [dec_big h10, if_neg (by omega)]
theorem decP_zero : decP 0 = [] := by unfold decP; rw [if_pos rfl]
theorem decP_pos {m : Nat} (h : 0 < m) : decP m = Lib.decDigits m := by unfold decP; rw [if_neg (by omega)]
theorem decP_len (k : Nat) : ∀ m, m < 10 ^ k → (decP m).length ≤ k := by
  induction k with
  | zero => intro m h; have : m = 0 := by simpa using h
            rw [this, decP_zero]; simp
  | succ k ih =>
    intro m h
    rcases Nat.eq_zero_or_pos m with h0 | h0
    · rw [h0, decP_zero]; simp
    · rw [Nat.pow_succ] at h
      have h1 := ih (m / 10) (by omega)
      rw [decP_step h0, List.length_append]; simp; omega
theorem decP_len_pos {m : Nat} (h : 0 < m) : 0 < (decP m).length := by rw [decP_step h]; simp
theorem itoa_nat (n : Nat) : Lib.itoa (n : Int) = Lib.decDigits n := by
  unfold Lib.itoa; rw [if_neg (by omega)]; simp

/-- The number that the bytes spell. -/
def val (l : List UInt8) : Nat := l.foldl (fun a c => a * 10 + (c.toNat - 48)) 0
theorem val_snoc (l : List UInt8) (c : UInt8) : val (l ++ [c]) = val l * 10 + (c.toNat - 48) := by
  unfold val; rw [List.foldl_append, List.foldl_cons, List.foldl_nil]
theorem toNat_digit {d : Nat} (h : d < 10) : (UInt8.ofNat (48 + d)).toNat = 48 + d := by
  rw [UInt8.toNat_ofNat']; omega
theorem val_dec (u : Nat) : val (Lib.decDigits u) = u := by
  induction u using Nat.strongRecOn with
  | _ u ih =>
    by_cases h : u < 10
    · rw [dec_small h]
      have e : val ([] ++ [UInt8.ofNat (48 + u)]) = u := by
        rw [val_snoc, toNat_digit h]; simp [val]
      exact e
    · rw [dec_big h, val_snoc, ih (u / 10) (by omega), toNat_digit (by omega)]; omega
theorem dec_inj {u v : Nat} (h : Lib.decDigits u = Lib.decDigits v) : u = v := by
  rw [← val_dec u, h, val_dec]
theorem dec_noComma (u : Nat) : (44 : UInt8) ∉ Lib.decDigits u := by
  induction u using Nat.strongRecOn with
  | _ u ih =>
    by_cases h : u < 10
    · rw [dec_small h, List.mem_singleton]
      intro e
      have := congrArg UInt8.toNat e
      rw [toNat_digit h] at this
      have h44 : (44 : UInt8).toNat = 44 := rfl
      omega
    · rw [dec_big h, List.mem_append, List.mem_singleton]
      rintro (e | e)
      · exact ih _ (by omega) e
      · have := congrArg UInt8.toNat e
        rw [toNat_digit (by omega)] at this
        have h44 : (44 : UInt8).toNat = 44 := rfl
        omega
theorem split_at {c : UInt8} : ∀ (l1 l2 r1 r2 : List UInt8), c ∉ l1 → c ∉ l2 → l1 ++ c :: r1 = l2 ++ c :: r2 → l1 = l2 ∧ r1 = r2 := by
  intro l1
  induction l1 with
  | nil =>
    intro l2 r1 r2 _ h2 e
    cases l2 with
    | nil => simp at e; exact ⟨rfl, e⟩
    | cons x l2 => simp at e; exact absurd (by rw [e.1]; simp) h2
  | cons x l1 ih =>
    intro l2 r1 r2 h1 h2 e
    cases l2 with
    | nil => simp at e; exact absurd (by rw [← e.1]; simp) h1
    | cons y l2 =>
      simp only [List.cons_append, List.cons.injEq] at e
      have h3 := ih l2 r1 r2 (fun h => h1 (List.mem_cons_of_mem _ h)) (fun h => h2 (List.mem_cons_of_mem _ h)) e.2
      exact ⟨by rw [e.1, h3.1], h3.2⟩

/-! ### Hex digits, a fixed number of them -/
def hexd (d : Nat) : UInt8 := FmtText.digit false d
def fixed : Nat → Nat → List UInt8
  | 0, _ => []
  | n + 1, u => fixed n (u / 16) ++ [hexd (u % 16)]
theorem fixed_succ (n u : Nat) : fixed (n + 1) u = fixed n (u / 16) ++ [hexd (u % 16)] := rfl
theorem fixed_len (n : Nat) : ∀ u, (fixed n u).length = n := by
  induction n with
  | zero => intro u; rfl
  | succ n ih => intro u; rw [fixed_succ, List.length_append, ih]; rfl
theorem hexd_toNat {d : Nat} (h : d < 16) : (hexd d).toNat = if d < 10 then 48 + d else 87 + d := by
  unfold hexd FmtText.digit
  by_cases h10 : d < 10
  · rw [if_pos h10, if_pos h10, UInt8.toNat_ofNat']; omega
  · rw [if_neg h10, if_neg h10]
    simp only [Bool.false_eq_true, if_false]
    rw [UInt8.toNat_ofNat']; omega
theorem fixed_zero (n : Nat) : fixed n 0 = List.replicate n 48 := by
  induction n with
  | zero => rfl
  | succ n ih =>
    rw [fixed_succ, show 0 / 16 = 0 from rfl, ih, List.replicate_succ']
    rfl
theorem from_acc (fuel : Nat) : ∀ (u : Nat) (acc : List UInt8), FmtText.digitsFrom 16 false fuel u acc = FmtText.digitsFrom 16 false fuel u [] ++ acc := by
  induction fuel with
  | zero => intro u acc; simp [FmtText.digitsFrom]
  | succ f ih =>
    intro u acc
    simp only [FmtText.digitsFrom]
    by_cases h : u < 16
    · rw [if_pos h, if_pos h]; rfl
    · rw [if_neg h, if_neg h, ih _ (_ :: acc), ih _ [_]]; simp
theorem from_fixed (n : Nat) : ∀ (fuel u : Nat), n < fuel → u < 16 ^ (n + 1) →
    List.replicate (n + 1 - (FmtText.digitsFrom 16 false fuel u []).length) 48 ++ FmtText.digitsFrom 16 false fuel u [] = fixed (n + 1) u := by
  induction n with
  | zero =>
    intro fuel u hf hu
    obtain ⟨f, rfl⟩ : ∃ f, fuel = f + 1 := ⟨fuel - 1, by omega⟩
    simp only [FmtText.digitsFrom]
    rw [if_pos (by simpa using hu), fixed_succ, show u % 16 = u from by simp at hu; omega]
    rfl
  | succ n ih =>
    intro fuel u hf hu
    obtain ⟨f, rfl⟩ : ∃ f, fuel = f + 1 := ⟨fuel - 1, by omega⟩
    rw [Nat.pow_succ] at hu
    simp only [FmtText.digitsFrom]
    by_cases h : u < 16
    · rw [if_pos h, fixed_succ, show u / 16 = 0 from by omega, show u % 16 = u from by omega, fixed_zero]
      rfl
    · rw [if_neg h, from_acc, fixed_succ, ← ih f (u / 16) (by omega) (by omega), ← List.append_assoc, List.length_append]
      simp only [List.length_singleton]
      rw [show n + 1 + 1 - ((FmtText.digitsFrom 16 false f (u / 16) []).length + 1) = n + 1 - (FmtText.digitsFrom 16 false f (u / 16) []).length from by omega]
      rfl
/-- fmt's eight hex digits are the fixed ones. -/
theorem hexZeros_fixed (n : Nat) (h : n < 4294967296) : FmtText.hexZeros false false 8 (n : Int) = fixed 8 n := by
  unfold FmtText.hexZeros
  have h0 : ¬ ((n : Int) < 0) := by omega
  rw [if_neg h0, if_neg h0, if_neg Bool.false_ne_true, List.nil_append, List.nil_append, Int.natAbs_natCast]
  exact from_fixed 7 64 n (by omega) (by have : (16 : Nat) ^ (7 + 1) = 4294967296 := by decide
                                         omega)

/-! ### The order of byte strings -/
theorem less_snoc : ∀ (a b : List UInt8) (x y : UInt8), a.length = b.length →
    Op.bytesLess (a ++ [x]) (b ++ [y]) = (Op.bytesLess a b || (a == b && decide (x < y))) := by
  intro a
  induction a with
  | nil =>
    intro b x y h
    cases b with
    | nil => simp [Op.bytesLess]
    | cons _ _ => simp at h
  | cons c a ih =>
    intro b x y h
    cases b with
    | nil => simp at h
    | cons d b =>
      simp only [List.cons_append, Op.bytesLess]
      rw [ih b x y (by simpa using h)]
      by_cases h1 : c < d
      · simp [h1]
      · by_cases h2 : c = d
        · subst h2; simp [h1]
        · have h3 : (c == d) = false := by simpa using h2
          simp [h1, h3]
theorem hexd_lt {d e : Nat} (hd : d < 16) (he : e < 16) : (hexd d < hexd e) ↔ d < e := by
  rw [UInt8.lt_iff_toNat_lt, hexd_toNat hd, hexd_toNat he]
  split <;> split <;> omega
theorem hexd_inj {d e : Nat} (hd : d < 16) (he : e < 16) (h : hexd d = hexd e) : d = e := by
  have := congrArg UInt8.toNat h
  rw [hexd_toNat hd, hexd_toNat he] at this
  split at this <;> split at this <;> omega
theorem fixed_inj (n : Nat) : ∀ u v, u < 16 ^ n → v < 16 ^ n → fixed n u = fixed n v → u = v := by
  induction n with
  | zero => intro u v hu hv _; simp at hu hv; omega
  | succ n ih =>
    intro u v hu hv h
    rw [Nat.pow_succ] at hu hv
    rw [fixed_succ, fixed_succ] at h
    have h1 := List.append_inj h (by rw [fixed_len, fixed_len])
    have h2 := ih (u / 16) (v / 16) (by omega) (by omega) h1.1
    have h3 := hexd_inj (by omega) (by omega) (List.cons.inj h1.2).1
    omega
theorem fixed_less (n : Nat) : ∀ u v, u < 16 ^ n → v < 16 ^ n → Op.bytesLess (fixed n u) (fixed n v) = decide (u < v) := by
  induction n with
  | zero => intro u v hu hv; simp at hu hv; subst hu; subst hv; rfl
  | succ n ih =>
    intro u v hu hv
    rw [Nat.pow_succ] at hu hv
    rw [fixed_succ, fixed_succ, less_snoc _ _ _ _ (by rw [fixed_len, fixed_len]), ih (u / 16) (v / 16) (by omega) (by omega)]
    rw [Bool.eq_iff_iff]
    simp only [Bool.or_eq_true, Bool.and_eq_true, decide_eq_true_eq, beq_iff_eq]
    rw [hexd_lt (by omega) (by omega)]
    constructor
    · rintro (h | ⟨h1, h2⟩)
      · omega
      · have := fixed_inj n _ _ (by omega) (by omega) h1
        omega
    · intro h
      by_cases h1 : u / 16 < v / 16
      · exact .inl h1
      · refine .inr ⟨?_, by omega⟩
        rw [show u / 16 = v / 16 from by omega]

/-! ### Two names -/
theorem reg1 (i : Nat) : regText 1 i = [112, 99, 114] ++ Lib.decDigits i := by simp [regText, itoa_nat]
theorem reg2 (i : Nat) : regText 2 i = [114, 116, 109, 114] ++ Lib.decDigits i := by simp [regText, itoa_nat]
theorem reg3 (i : Nat) (h : i < 4294967296) : regText 3 i = [110, 118, 48, 120] ++ fixed 8 i := by simp [regText, hexZeros_fixed i h]
theorem reg4 (i : Nat) : regText 4 i = [109, 114, 116, 100] := by simp [regText]
theorem regX (k i : Nat) (h1 : k ≠ 1) (h2 : k ≠ 2) (h3 : k ≠ 3) (h4 : k ≠ 4) :
    regText k i = [114, 101, 103, 105, 115, 116, 101, 114, 40, 107, 105, 110, 100, 32] ++ (Lib.decDigits k ++ 44 :: ([32, 105, 110, 100, 101, 120, 32] ++ (Lib.decDigits i ++ [41]))) := by
  have e1 : ¬ ((k : Int) = 1) := by omega
  have e2 : ¬ ((k : Int) = 2) := by omega
  have e3 : ¬ ((k : Int) = 3) := by omega
  have e4 : ¬ ((k : Int) = 4) := by omega
  unfold regText
  rw [if_neg e1, if_neg e2, if_neg e3, if_neg e4, itoa_nat, itoa_nat]
  rfl

/-- Two names are one just where they name one register. -/
theorem reg_eq (k i k' i' : Nat) (hi : i < 4294967296) (hi' : i' < 4294967296) : regText k i = regText k' i' ↔ (k = k' ∧ (k = 4 ∨ i = i')) := by
  constructor
  · intro h
    by_cases a1 : k = 1
    · subst a1
      by_cases b1 : k' = 1
      · subst b1
        rw [show ((1 : Nat) : Int) = 1 from rfl, reg1, reg1] at h
        exact ⟨rfl, .inr (dec_inj (List.append_cancel_left h))⟩
      by_cases b2 : k' = 2
      · subst b2; rw [show ((1 : Nat) : Int) = 1 from rfl, show ((2 : Nat) : Int) = 2 from rfl, reg1, reg2] at h; simp at h
      by_cases b3 : k' = 3
      · subst b3; rw [show ((1 : Nat) : Int) = 1 from rfl, show ((3 : Nat) : Int) = 3 from rfl, reg1, reg3 _ hi'] at h; simp at h
      by_cases b4 : k' = 4
      · subst b4; rw [show ((1 : Nat) : Int) = 1 from rfl, show ((4 : Nat) : Int) = 4 from rfl, reg1, reg4] at h; simp at h
      rw [show ((1 : Nat) : Int) = 1 from rfl, reg1, regX _ _ b1 b2 b3 b4] at h; simp at h
    by_cases a2 : k = 2
    · subst a2
      by_cases b1 : k' = 1
      · subst b1; rw [show ((1 : Nat) : Int) = 1 from rfl, show ((2 : Nat) : Int) = 2 from rfl, reg1, reg2] at h; simp at h
      by_cases b2 : k' = 2
      · subst b2
        rw [show ((2 : Nat) : Int) = 2 from rfl, reg2, reg2] at h
        exact ⟨rfl, .inr (dec_inj (List.append_cancel_left h))⟩
      by_cases b3 : k' = 3
      · subst b3; rw [show ((2 : Nat) : Int) = 2 from rfl, show ((3 : Nat) : Int) = 3 from rfl, reg2, reg3 _ hi'] at h; simp at h
      by_cases b4 : k' = 4
      · subst b4; rw [show ((2 : Nat) : Int) = 2 from rfl, show ((4 : Nat) : Int) = 4 from rfl, reg2, reg4] at h; simp at h
      rw [show ((2 : Nat) : Int) = 2 from rfl, reg2, regX _ _ b1 b2 b3 b4] at h; simp at h
    by_cases a3 : k = 3
    · subst a3
      by_cases b1 : k' = 1
      · subst b1; rw [show ((1 : Nat) : Int) = 1 from rfl, show ((3 : Nat) : Int) = 3 from rfl, reg1, reg3 _ hi] at h; simp at h
      by_cases b2 : k' = 2
      · subst b2; rw [show ((2 : Nat) : Int) = 2 from rfl, show ((3 : Nat) : Int) = 3 from rfl, reg2, reg3 _ hi] at h; simp at h
      by_cases b3 : k' = 3
      · subst b3
        rw [show ((3 : Nat) : Int) = 3 from rfl, reg3 _ hi, reg3 _ hi'] at h
        have e16 : (16 : Nat) ^ 8 = 4294967296 := by decide
        exact ⟨rfl, .inr (fixed_inj 8 _ _ (by omega) (by omega) (List.append_cancel_left h))⟩
      by_cases b4 : k' = 4
      · subst b4; rw [show ((3 : Nat) : Int) = 3 from rfl, show ((4 : Nat) : Int) = 4 from rfl, reg3 _ hi, reg4] at h; simp at h
      rw [show ((3 : Nat) : Int) = 3 from rfl, reg3 _ hi, regX _ _ b1 b2 b3 b4] at h; simp at h
    by_cases a4 : k = 4
    · subst a4
      by_cases b1 : k' = 1
      · subst b1; rw [show ((1 : Nat) : Int) = 1 from rfl, show ((4 : Nat) : Int) = 4 from rfl, reg1, reg4] at h; simp at h
      by_cases b2 : k' = 2
      · subst b2; rw [show ((2 : Nat) : Int) = 2 from rfl, show ((4 : Nat) : Int) = 4 from rfl, reg2, reg4] at h; simp at h
      by_cases b3 : k' = 3
      · subst b3; rw [show ((3 : Nat) : Int) = 3 from rfl, show ((4 : Nat) : Int) = 4 from rfl, reg3 _ hi', reg4] at h; simp at h
      by_cases b4 : k' = 4
      · subst b4; exact ⟨rfl, .inl rfl⟩
      rw [show ((4 : Nat) : Int) = 4 from rfl, reg4, regX _ _ b1 b2 b3 b4] at h; simp at h
    rw [regX _ _ a1 a2 a3 a4] at h
    by_cases b1 : k' = 1
    · subst b1; rw [show ((1 : Nat) : Int) = 1 from rfl, reg1] at h; simp at h
    by_cases b2 : k' = 2
    · subst b2; rw [show ((2 : Nat) : Int) = 2 from rfl, reg2] at h; simp at h
    by_cases b3 : k' = 3
    · subst b3; rw [show ((3 : Nat) : Int) = 3 from rfl, reg3 _ hi'] at h; simp at h
    by_cases b4 : k' = 4
    · subst b4; rw [show ((4 : Nat) : Int) = 4 from rfl, reg4] at h; simp at h
    rw [regX _ _ b1 b2 b3 b4] at h
    have h1 := split_at _ _ _ _ (dec_noComma k) (dec_noComma k') (List.append_cancel_left h)
    have h2 := List.append_cancel_left h1.2
    exact ⟨dec_inj h1.1, .inr (dec_inj (List.append_cancel_right h2))⟩
  · rintro ⟨rfl, h⟩
    rcases h with h | h
    · subst h; rw [show ((4 : Nat) : Int) = 4 from rfl, reg4, reg4]
    · rw [h]
/-- The NV names sort as their indexes do. -/
theorem reg_less (i j : Nat) (hi : i < 4294967296) (hj : j < 4294967296) : Op.bytesLess (regText 3 i) (regText 3 j) = decide (i < j) := by
  have e16 : (16 : Nat) ^ 8 = 4294967296 := by decide
  rw [reg3 _ hi, reg3 _ hj, ← fixed_less 8 i j (by omega) (by omega)]
  simp [Op.bytesLess]
theorem reg3_len (i : Nat) (hi : i < 4294967296) : (regText 3 i).length = 12 := by
  rw [reg3 _ hi, List.length_append, fixed_len]; rfl
end Go.Proofs.Qxb6608912aFmt
