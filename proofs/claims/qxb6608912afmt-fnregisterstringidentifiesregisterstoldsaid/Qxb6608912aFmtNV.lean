/-
  The walk of the law FnRegisterStringNVFixedWidthOrdered, fmt's text told.
-/
import Derived.Test.Qxb6608912aFmtHex
import Derived.WalkLawsBesides
namespace Go.Proofs.Qxb6608912aFmt
open Go.RowKit Go.Extern.Stop Go.Stop Go.Extern Go.Kit

theorem reg_short (k i : Nat) (hk : k ≤ 255) (hi : i < 4294967296) : (regText k i).length < 2 ^ 63 := by
  have e63 : (2 : Nat) ^ 63 = 9223372036854775808 := by decide
  have hd : ∀ u : Nat, u < 4294967296 → (Lib.decDigits u).length ≤ 11 := by
    intro u hu
    rcases Nat.eq_zero_or_pos u with h | h
    · rw [h, dec_small (by omega)]; simp
    · rw [← decP_pos h]
      exact decP_len 11 u (by have : (10 : Nat) ^ 11 = 100000000000 := by decide
                              omega)
  have h1 := hd i hi
  have h2 := hd k (by omega)
  by_cases a1 : k = 1
  · subst a1; rw [show ((1 : Nat) : Int) = 1 from rfl, reg1]; simp; omega
  by_cases a2 : k = 2
  · subst a2; rw [show ((2 : Nat) : Int) = 2 from rfl, reg2]; simp; omega
  by_cases a3 : k = 3
  · subst a3; rw [show ((3 : Nat) : Int) = 3 from rfl, reg3_len i hi]; omega
  by_cases a4 : k = 4
  · subst a4; rw [show ((4 : Nat) : Int) = 4 from rfl, reg4]; simp
  rw [regX _ _ a1 a2 a3 a4]; simp; omega

theorem wf_u32 (i : Nat) (hi : i < 4294967296) : (Lit.int .u32 (i : Int)).wf = true := by
  have e1 : IntKind.u32.min = 0 := rfl
  have e2 : IntKind.u32.max = 4294967295 := rfl
  simp [Lit.wf, e1, e2]; omega
theorem wf_u8 (k : Nat) (hk : k ≤ 255) : (Lit.int .u8 (k : Int)).wf = true := by
  have e1 : IntKind.u8.min = 0 := rfl
  have e2 : IntKind.u8.max = 255 := rfl
  simp [Lit.wf, e1, e2]; omega

/-- Register.String, fmt's text told: the register's name. -/
theorem str_told (F : Interp) (k i : Nat) (hk : k ≤ 255) (hi : i < 4294967296) (w : World) (hF : F.told.answers w.tape) :
    Calls Tryf.prog 8 #[.agg #[.int .u8 k, .int .u32 i]] w fun e w' => ∃ s : ByteArray, e = .returned (.string s) ∧ s.data.toList = regText k i ∧ Below w.heap.size w w' := by
  have hl := reg_short k i hk hi
  by_cases a1 : k = 1
  · subst a1
    refine (str1 F.told i w hF).mono ?_
    rintro e w' ⟨rfl, hb⟩
    exact ⟨_, rfl, by rw [textOf_list]; exact told_string F (textP i (wf_u32 i hi)) hl, hb⟩
  by_cases a2 : k = 2
  · subst a2
    refine (str2 F.told i w hF).mono ?_
    rintro e w' ⟨rfl, hb⟩
    exact ⟨_, rfl, by rw [textOf_list]; exact told_string F (textR i (wf_u32 i hi)) hl, hb⟩
  by_cases a3 : k = 3
  · subst a3
    refine (str3 F.told i w hF).mono ?_
    rintro e w' ⟨rfl, hb⟩
    exact ⟨_, rfl, by rw [textOf_list]; exact told_string F (textN i (wf_u32 i hi)) hl, hb⟩
  by_cases a4 : k = 4
  · subst a4
    refine (str4 i w).mono ?_
    rintro e w' ⟨rfl, hb⟩
    exact ⟨_, rfl, (reg4 i).symm, hb⟩
  refine (strX F.told k i w hF (beq_eq_false_iff_ne.2 (by omega)) (beq_eq_false_iff_ne.2 (by omega)) (beq_eq_false_iff_ne.2 (by omega)) (beq_eq_false_iff_ne.2 (by omega))).mono ?_
  rintro e w' ⟨rfl, hb⟩
  exact ⟨_, rfl, by rw [textOf_list]; exact told_string F (textX k i (wf_u8 k hk) (wf_u32 i hi) (by omega) (by omega) (by omega) (by omega)) hl, hb⟩

theorem below_call {w w1 w2 : World} (h1 : Below w.heap.size w w1) (h2 : Below w1.heap.size w1 w2) : Below w.heap.size w w2 :=
  h1.trans (h2.mono h1.size)
theorem below3 {w w1 w2 w3 : World} (h1 : Below w.heap.size w w1) (h2 : Below w1.heap.size w1 w2) (h3 : Below w2.heap.size w2 w3) : Below w.heap.size w w3 :=
  below_call (below_call h1 h2) h3

set_option maxHeartbeats 400000 in
theorem nv_any (F : Interp) (i j : Nat) (hi : i < 4294967296) (hj : j < 4294967296) (w : World) (hF : F.told.answers w.tape) :
    Calls Tryf.prog 5 #[.int .u32 i, .int .u32 j] w fun e w' => e = .returned (.bool true) ∧ Below w.heap.size w w' := by
  have HF : Hid (F.told.answers w.tape) := hF
  clear hF
  go_enter Tryf.func5, Tryf.ntmps5
  go_wp2_with fail
  refine (str_told F 3 i (by omega) hi _ HF.out).mono ?_
  rintro e w1 ⟨si, rfl, hsi, hb1⟩
  have HF1 : Hid (F.told.answers w1.tape) := by
    show F.told.answers w1.tape
    rw [hb1.tape]; exact HF.out
  have HSI : Hid (si.data.toList = regText 3 i) := hsi
  clear hsi
  go_wp2_with fail
  refine (str_told F 3 j (by omega) hj _ HF1.out).mono ?_
  rintro e w2 ⟨sj, rfl, hsj, hb2⟩
  have HSJ : Hid (sj.data.toList = regText 3 j) := hsj
  clear hsj
  have hlen : si.size = 12 := by
    have h := congrArg List.length HSI.out
    rw [reg3_len i hi] at h
    simpa using h
  clear HF HF1
  go_wp2_with fail
  refine (hex8_any i _ hi).mono ?_
  rintro e w3 ⟨sh, rfl, hsh, hb3⟩
  have hsz : sh.size = 8 := by
    have h := congrArg List.length hsh
    rw [fixed_len] at h
    simpa using h
  have hq1 : (si.toList == ((⟨#[110, 118, 48, 120]⟩ : ByteArray) ++ sh).toList) = true := by
    rw [ByteArray.toList_eq, ByteArray.toList_eq, HSI.out, ByteArray.data_append, Array.toList_append, hsh, reg3 i hi]
    exact beq_self_eq_true _
  have hq2 : Op.bytesLess si.toList sj.toList = decide (i < j) := by
    rw [ByteArray.toList_eq, ByteArray.toList_eq, HSI.out, HSJ.out, reg_less i j hi hj]
  have hq3 : (si.toList == sj.toList) = ((i : Int) == (j : Int)) := by
    rw [ByteArray.toList_eq, ByteArray.toList_eq, HSI.out, HSJ.out, Bool.eq_iff_iff, beq_iff_eq, beq_iff_eq]
    have h := reg_eq 3 i 3 j hi hj
    rw [show ((3 : Nat) : Int) = 3 from rfl] at h
    rw [h]; omega
  clear hsh HSI HSJ
  go_wp2
  go_ret
  exact ⟨rfl, below3 hb1 hb2 hb3⟩
end Go.Proofs.Qxb6608912aFmt
