/-
  The walk of the law FnRegisterStringIdentifiesRegisters, fmt's text told.
-/
import Derived.Test.Qxb6608912aFmtNV
import Derived.Test.Qxb6608912aFmtDec
namespace Go.Proofs.Qxb6608912aFmt
open Go.RowKit Go.Extern.Stop Go.Stop Go.Extern Go.Kit

theorem bcell {W w1 : World} (hb : Below W.heap.size W w1) : (∀ b o, b < W.heap.size → w1.cell? ⟨b, o, none⟩ = W.cell? ⟨b, o, none⟩) ∧ (∀ b o, b < W.heap.size → w1.frozen? ⟨b, o, none⟩ = W.frozen? ⟨b, o, none⟩) :=
  ⟨fun b o h => hb.cell (p := ⟨b, o, none⟩) h, fun b o h => hb.frozen (p := ⟨b, o, none⟩) h⟩
theorem same_names {sa sb : ByteArray} {kA iA kB iB : Nat} (ha : iA < 4294967296) (hb : iB < 4294967296) (h1 : sa.data.toList = regText kA iA) (h2 : sb.data.toList = regText kB iB) (h : kA = kB ∧ (kA = 4 ∨ iA = iB)) :
    (sa.toList == sb.toList) = true := by
  rw [ByteArray.toList_eq, ByteArray.toList_eq, h1, h2, beq_iff_eq]
  exact (reg_eq kA iA kB iB ha hb).2 h
theorem other_names {sa sb : ByteArray} {kA iA kB iB : Nat} (ha : iA < 4294967296) (hb : iB < 4294967296) (h1 : sa.data.toList = regText kA iA) (h2 : sb.data.toList = regText kB iB) (h : ¬ (kA = kB ∧ (kA = 4 ∨ iA = iB))) :
    (sa.toList == sb.toList) = false := by
  rw [ByteArray.toList_eq, ByteArray.toList_eq, h1, h2, beq_eq_false_iff_ne]
  exact fun e => h ((reg_eq kA iA kB iB ha hb).1 e)
theorem eqB {a b : Nat} (h : a = b) : ((a : Int) == (b : Int)) = true := by rw [h]; exact beq_self_eq_true _
theorem neB {a b : Nat} (h : ¬ a = b) : ((a : Int) == (b : Int)) = false := by rw [beq_eq_false_iff_ne]; omega

theorem dec_len11 (u : Nat) (hu : u < 4294967296) : (Lib.decDigits u).length ≤ 11 := by
  rcases Nat.eq_zero_or_pos u with h | h
  · rw [h, dec_small (by omega)]; simp
  · rw [← decP_pos h]
    exact decP_len 11 u (by have : (10 : Nat) ^ 11 = 100000000000 := by decide
                            omega)

set_option maxHeartbeats 400000 in
theorem id_1_kne (F : Interp) (kA iA kB iB : Nat) (hkA : kA ≤ 255) (hiA : iA < 4294967296) (hkB : kB ≤ 255) (hiB : iB < 4294967296) (w : World) (hF : F.told.answers w.tape)
    (h1 : kA = 1) (hk : ¬ kA = kB) :
    Calls Tryf.prog 4 #[.int .u8 kA, .int .u32 iA, .int .u8 kB, .int .u32 iB] w fun e w' => e = .returned (.bool true) ∧ Below w.heap.size w w' := by
  have H1 : Hid (kA = 1) := h1
  clear h1
  have HK : Hid (¬ kA = kB) := hk
  clear hk
  have HF : Hid (F.told.answers w.tape) := hF
  clear hF
  go_enter Tryf.func4, Tryf.ntmps4
  go_wp2_with fail
  refine (str_told F kA iA hkA hiA _ (by exact HF.out)).mono ?_
  rintro e w1 ⟨sa, rfl, hsa, hb1⟩
  have HF1 : Hid (F.told.answers w1.tape) := by
    show F.told.answers w1.tape
    rw [hb1.tape]; exact HF.out
  have HSA : Hid (sa.data.toList = regText kA iA) := hsa
  obtain ⟨hc1, hf1⟩ := bcell hb1
  have hz1 : w.heap.size + 1 < w1.heap.size := by have := hb1.size; simp at this; omega
  clear hsa
  go_wp2_with fail
  refine (str_told F kB iB hkB hiB _ (by exact HF1.out)).mono ?_
  rintro e w2 ⟨sb, rfl, hsb, hb2⟩
  have HSB : Hid (sb.data.toList = regText kB iB) := hsb
  have hcA : w2.cell? ⟨w.heap.size, 0, none⟩ = some (.int .u8 kA) := by
    rw [hb2.cell (p := ⟨w.heap.size, 0, none⟩) (by show w.heap.size < w1.heap.size; omega), hc1 w.heap.size 0 (by simp; omega)]
    simp
  have hz2 : w.heap.size < w2.heap.size := by have := hb2.size; omega
  have hb12 : Below w.heap.size w w2 := (((Below.refl _ _).alloc (Nat.le_refl _) _).alloc (by simp) _).trans ((below_call hb1 hb2).mono (by simp; omega))
  clear hsb HF HF1 hc1 hf1
  have hq := other_names hiA hiB HSA.out HSB.out (fun h => HK.out h.1)
  have hkk := neB HK.out
  have hp1 : ((kA : Int) == 1) = true := eqB H1.out
  have hp2 : ((kA : Int) == 2) = false := by have := H1.out; rw [beq_eq_false_iff_ne]; omega
  have hp4 : ((kA : Int) == 4) = false := by have := H1.out; rw [beq_eq_false_iff_ne]; omega
  clear HSB HK
  go_wp2_with fail
  refine (dec_any iA _ hiA).mono ?_
  rintro e w3 ⟨sd, rfl, hsd, hb3⟩
  have hsz : sd.size ≤ 11 := by
    have h := congrArg List.length hsd
    have h2 := dec_len11 iA hiA
    have h3 : sd.data.toList.length = sd.size := Array.length_toList
    omega
  have hq1 : (sa.toList == ((⟨#[112, 99, 114]⟩ : ByteArray) ++ sd).toList) = true := by
    rw [ByteArray.toList_eq, ByteArray.toList_eq, HSA.out, ByteArray.data_append, Array.toList_append, hsd, H1.out]
    rw [show ((1 : Nat) : Int) = 1 from rfl, reg1]
    exact beq_self_eq_true _
  have hcA3 : w3.cell? ⟨w.heap.size, 0, none⟩ = some (.int .u8 kA) := by
    rw [hb3.cell (p := ⟨w.heap.size, 0, none⟩) (by show w.heap.size < w2.heap.size; exact hz2)]; exact hcA
  have hb13 : Below w.heap.size w w3 := below_call hb12 hb3
  clear hsd hcA HSA
  go_wp2
  go_ret
  exact ⟨rfl, hb13⟩

set_option maxHeartbeats 400000 in
theorem id_1_ieq (F : Interp) (kA iA kB iB : Nat) (hkA : kA ≤ 255) (hiA : iA < 4294967296) (hkB : kB ≤ 255) (hiB : iB < 4294967296) (w : World) (hF : F.told.answers w.tape)
    (h1 : kA = 1) (hk : kA = kB) (hi : iA = iB) :
    Calls Tryf.prog 4 #[.int .u8 kA, .int .u32 iA, .int .u8 kB, .int .u32 iB] w fun e w' => e = .returned (.bool true) ∧ Below w.heap.size w w' := by
  have H1 : Hid (kA = 1) := h1
  clear h1
  have HK : Hid (kA = kB) := hk
  have HI : Hid (iA = iB) := hi
  clear hk hi
  have HF : Hid (F.told.answers w.tape) := hF
  clear hF
  go_enter Tryf.func4, Tryf.ntmps4
  go_wp2_with fail
  refine (str_told F kA iA hkA hiA _ (by exact HF.out)).mono ?_
  rintro e w1 ⟨sa, rfl, hsa, hb1⟩
  have HF1 : Hid (F.told.answers w1.tape) := by
    show F.told.answers w1.tape
    rw [hb1.tape]; exact HF.out
  have HSA : Hid (sa.data.toList = regText kA iA) := hsa
  obtain ⟨hc1, hf1⟩ := bcell hb1
  have hz1 : w.heap.size + 1 < w1.heap.size := by have := hb1.size; simp at this; omega
  clear hsa
  go_wp2_with fail
  refine (str_told F kB iB hkB hiB _ (by exact HF1.out)).mono ?_
  rintro e w2 ⟨sb, rfl, hsb, hb2⟩
  have HSB : Hid (sb.data.toList = regText kB iB) := hsb
  have hcA : w2.cell? ⟨w.heap.size, 0, none⟩ = some (.int .u8 kA) := by
    rw [hb2.cell (p := ⟨w.heap.size, 0, none⟩) (by show w.heap.size < w1.heap.size; omega), hc1 w.heap.size 0 (by simp; omega)]
    simp
  have hz2 : w.heap.size < w2.heap.size := by have := hb2.size; omega
  have hb12 : Below w.heap.size w w2 := (((Below.refl _ _).alloc (Nat.le_refl _) _).alloc (by simp) _).trans ((below_call hb1 hb2).mono (by simp; omega))
  clear hsb HF HF1 hc1 hf1
  have hq := same_names hiA hiB HSA.out HSB.out ⟨HK.out, .inr HI.out⟩
  have hkk := eqB HK.out
  have hii := eqB HI.out
  have hp1 : ((kA : Int) == 1) = true := eqB H1.out
  have hp2 : ((kA : Int) == 2) = false := by have := H1.out; rw [beq_eq_false_iff_ne]; omega
  have hp4 : ((kA : Int) == 4) = false := by have := H1.out; rw [beq_eq_false_iff_ne]; omega
  clear HSB HK HI
  go_wp2_with fail
  refine (dec_any iA _ hiA).mono ?_
  rintro e w3 ⟨sd, rfl, hsd, hb3⟩
  have hsz : sd.size ≤ 11 := by
    have h := congrArg List.length hsd
    have h2 := dec_len11 iA hiA
    have h3 : sd.data.toList.length = sd.size := Array.length_toList
    omega
  have hq1 : (sa.toList == ((⟨#[112, 99, 114]⟩ : ByteArray) ++ sd).toList) = true := by
    rw [ByteArray.toList_eq, ByteArray.toList_eq, HSA.out, ByteArray.data_append, Array.toList_append, hsd, H1.out]
    rw [show ((1 : Nat) : Int) = 1 from rfl, reg1]
    exact beq_self_eq_true _
  have hcA3 : w3.cell? ⟨w.heap.size, 0, none⟩ = some (.int .u8 kA) := by
    rw [hb3.cell (p := ⟨w.heap.size, 0, none⟩) (by show w.heap.size < w2.heap.size; exact hz2)]; exact hcA
  have hb13 : Below w.heap.size w w3 := below_call hb12 hb3
  clear hsd hcA HSA
  go_wp2
  go_ret
  exact ⟨rfl, hb13⟩

set_option maxHeartbeats 400000 in
theorem id_1_ine (F : Interp) (kA iA kB iB : Nat) (hkA : kA ≤ 255) (hiA : iA < 4294967296) (hkB : kB ≤ 255) (hiB : iB < 4294967296) (w : World) (hF : F.told.answers w.tape)
    (h1 : kA = 1) (hk : kA = kB) (hi : ¬ iA = iB) :
    Calls Tryf.prog 4 #[.int .u8 kA, .int .u32 iA, .int .u8 kB, .int .u32 iB] w fun e w' => e = .returned (.bool true) ∧ Below w.heap.size w w' := by
  have H1 : Hid (kA = 1) := h1
  clear h1
  have HK : Hid (kA = kB) := hk
  have HI : Hid (¬ iA = iB) := hi
  clear hk hi
  have HF : Hid (F.told.answers w.tape) := hF
  clear hF
  go_enter Tryf.func4, Tryf.ntmps4
  go_wp2_with fail
  refine (str_told F kA iA hkA hiA _ (by exact HF.out)).mono ?_
  rintro e w1 ⟨sa, rfl, hsa, hb1⟩
  have HF1 : Hid (F.told.answers w1.tape) := by
    show F.told.answers w1.tape
    rw [hb1.tape]; exact HF.out
  have HSA : Hid (sa.data.toList = regText kA iA) := hsa
  obtain ⟨hc1, hf1⟩ := bcell hb1
  have hz1 : w.heap.size + 1 < w1.heap.size := by have := hb1.size; simp at this; omega
  clear hsa
  go_wp2_with fail
  refine (str_told F kB iB hkB hiB _ (by exact HF1.out)).mono ?_
  rintro e w2 ⟨sb, rfl, hsb, hb2⟩
  have HSB : Hid (sb.data.toList = regText kB iB) := hsb
  have hcA : w2.cell? ⟨w.heap.size, 0, none⟩ = some (.int .u8 kA) := by
    rw [hb2.cell (p := ⟨w.heap.size, 0, none⟩) (by show w.heap.size < w1.heap.size; omega), hc1 w.heap.size 0 (by simp; omega)]
    simp
  have hz2 : w.heap.size < w2.heap.size := by have := hb2.size; omega
  have hb12 : Below w.heap.size w w2 := (((Below.refl _ _).alloc (Nat.le_refl _) _).alloc (by simp) _).trans ((below_call hb1 hb2).mono (by simp; omega))
  clear hsb HF HF1 hc1 hf1
  have hq := other_names hiA hiB HSA.out HSB.out (fun h => h.2.elim (fun h4 => by have := H1.out; omega) HI.out)
  have hkk := eqB HK.out
  have hii := neB HI.out
  have hp1 : ((kA : Int) == 1) = true := eqB H1.out
  have hp2 : ((kA : Int) == 2) = false := by have := H1.out; rw [beq_eq_false_iff_ne]; omega
  have hp4 : ((kA : Int) == 4) = false := by have := H1.out; rw [beq_eq_false_iff_ne]; omega
  clear HSB HK HI
  go_wp2_with fail
  refine (dec_any iA _ hiA).mono ?_
  rintro e w3 ⟨sd, rfl, hsd, hb3⟩
  have hsz : sd.size ≤ 11 := by
    have h := congrArg List.length hsd
    have h2 := dec_len11 iA hiA
    have h3 : sd.data.toList.length = sd.size := Array.length_toList
    omega
  have hq1 : (sa.toList == ((⟨#[112, 99, 114]⟩ : ByteArray) ++ sd).toList) = true := by
    rw [ByteArray.toList_eq, ByteArray.toList_eq, HSA.out, ByteArray.data_append, Array.toList_append, hsd, H1.out]
    rw [show ((1 : Nat) : Int) = 1 from rfl, reg1]
    exact beq_self_eq_true _
  have hcA3 : w3.cell? ⟨w.heap.size, 0, none⟩ = some (.int .u8 kA) := by
    rw [hb3.cell (p := ⟨w.heap.size, 0, none⟩) (by show w.heap.size < w2.heap.size; exact hz2)]; exact hcA
  have hb13 : Below w.heap.size w w3 := below_call hb12 hb3
  clear hsd hcA HSA
  go_wp2
  go_ret
  exact ⟨rfl, hb13⟩

set_option maxHeartbeats 400000 in
theorem id_2_kne (F : Interp) (kA iA kB iB : Nat) (hkA : kA ≤ 255) (hiA : iA < 4294967296) (hkB : kB ≤ 255) (hiB : iB < 4294967296) (w : World) (hF : F.told.answers w.tape)
    (h1 : kA = 2) (hk : ¬ kA = kB) :
    Calls Tryf.prog 4 #[.int .u8 kA, .int .u32 iA, .int .u8 kB, .int .u32 iB] w fun e w' => e = .returned (.bool true) ∧ Below w.heap.size w w' := by
  have H1 : Hid (kA = 2) := h1
  clear h1
  have HK : Hid (¬ kA = kB) := hk
  clear hk
  have HF : Hid (F.told.answers w.tape) := hF
  clear hF
  go_enter Tryf.func4, Tryf.ntmps4
  go_wp2_with fail
  refine (str_told F kA iA hkA hiA _ (by exact HF.out)).mono ?_
  rintro e w1 ⟨sa, rfl, hsa, hb1⟩
  have HF1 : Hid (F.told.answers w1.tape) := by
    show F.told.answers w1.tape
    rw [hb1.tape]; exact HF.out
  have HSA : Hid (sa.data.toList = regText kA iA) := hsa
  obtain ⟨hc1, hf1⟩ := bcell hb1
  have hz1 : w.heap.size + 1 < w1.heap.size := by have := hb1.size; simp at this; omega
  clear hsa
  go_wp2_with fail
  refine (str_told F kB iB hkB hiB _ (by exact HF1.out)).mono ?_
  rintro e w2 ⟨sb, rfl, hsb, hb2⟩
  have HSB : Hid (sb.data.toList = regText kB iB) := hsb
  have hcA : w2.cell? ⟨w.heap.size, 0, none⟩ = some (.int .u8 kA) := by
    rw [hb2.cell (p := ⟨w.heap.size, 0, none⟩) (by show w.heap.size < w1.heap.size; omega), hc1 w.heap.size 0 (by simp; omega)]
    simp
  have hz2 : w.heap.size < w2.heap.size := by have := hb2.size; omega
  have hb12 : Below w.heap.size w w2 := (((Below.refl _ _).alloc (Nat.le_refl _) _).alloc (by simp) _).trans ((below_call hb1 hb2).mono (by simp; omega))
  clear hsb HF HF1 hc1 hf1
  have hq := other_names hiA hiB HSA.out HSB.out (fun h => HK.out h.1)
  have hkk := neB HK.out
  have hp1 : ((kA : Int) == 1) = false := by have := H1.out; rw [beq_eq_false_iff_ne]; omega
  have hp2 : ((kA : Int) == 2) = true := eqB H1.out
  have hp4 : ((kA : Int) == 4) = false := by have := H1.out; rw [beq_eq_false_iff_ne]; omega
  clear HSB HK
  go_wp2_with fail
  refine (dec_any iA _ hiA).mono ?_
  rintro e w3 ⟨sd, rfl, hsd, hb3⟩
  have hsz : sd.size ≤ 11 := by
    have h := congrArg List.length hsd
    have h2 := dec_len11 iA hiA
    have h3 : sd.data.toList.length = sd.size := Array.length_toList
    omega
  have hq1 : (sa.toList == ((⟨#[114, 116, 109, 114]⟩ : ByteArray) ++ sd).toList) = true := by
    rw [ByteArray.toList_eq, ByteArray.toList_eq, HSA.out, ByteArray.data_append, Array.toList_append, hsd, H1.out]
    rw [show ((2 : Nat) : Int) = 2 from rfl, reg2]
    exact beq_self_eq_true _
  have hcA3 : w3.cell? ⟨w.heap.size, 0, none⟩ = some (.int .u8 kA) := by
    rw [hb3.cell (p := ⟨w.heap.size, 0, none⟩) (by show w.heap.size < w2.heap.size; exact hz2)]; exact hcA
  have hb13 : Below w.heap.size w w3 := below_call hb12 hb3
  clear hsd hcA HSA
  go_wp2
  go_ret
  exact ⟨rfl, hb13⟩

set_option maxHeartbeats 400000 in
theorem id_2_ieq (F : Interp) (kA iA kB iB : Nat) (hkA : kA ≤ 255) (hiA : iA < 4294967296) (hkB : kB ≤ 255) (hiB : iB < 4294967296) (w : World) (hF : F.told.answers w.tape)
    (h1 : kA = 2) (hk : kA = kB) (hi : iA = iB) :
    Calls Tryf.prog 4 #[.int .u8 kA, .int .u32 iA, .int .u8 kB, .int .u32 iB] w fun e w' => e = .returned (.bool true) ∧ Below w.heap.size w w' := by
  have H1 : Hid (kA = 2) := h1
  clear h1
  have HK : Hid (kA = kB) := hk
  have HI : Hid (iA = iB) := hi
  clear hk hi
  have HF : Hid (F.told.answers w.tape) := hF
  clear hF
  go_enter Tryf.func4, Tryf.ntmps4
  go_wp2_with fail
  refine (str_told F kA iA hkA hiA _ (by exact HF.out)).mono ?_
  rintro e w1 ⟨sa, rfl, hsa, hb1⟩
  have HF1 : Hid (F.told.answers w1.tape) := by
    show F.told.answers w1.tape
    rw [hb1.tape]; exact HF.out
  have HSA : Hid (sa.data.toList = regText kA iA) := hsa
  obtain ⟨hc1, hf1⟩ := bcell hb1
  have hz1 : w.heap.size + 1 < w1.heap.size := by have := hb1.size; simp at this; omega
  clear hsa
  go_wp2_with fail
  refine (str_told F kB iB hkB hiB _ (by exact HF1.out)).mono ?_
  rintro e w2 ⟨sb, rfl, hsb, hb2⟩
  have HSB : Hid (sb.data.toList = regText kB iB) := hsb
  have hcA : w2.cell? ⟨w.heap.size, 0, none⟩ = some (.int .u8 kA) := by
    rw [hb2.cell (p := ⟨w.heap.size, 0, none⟩) (by show w.heap.size < w1.heap.size; omega), hc1 w.heap.size 0 (by simp; omega)]
    simp
  have hz2 : w.heap.size < w2.heap.size := by have := hb2.size; omega
  have hb12 : Below w.heap.size w w2 := (((Below.refl _ _).alloc (Nat.le_refl _) _).alloc (by simp) _).trans ((below_call hb1 hb2).mono (by simp; omega))
  clear hsb HF HF1 hc1 hf1
  have hq := same_names hiA hiB HSA.out HSB.out ⟨HK.out, .inr HI.out⟩
  have hkk := eqB HK.out
  have hii := eqB HI.out
  have hp1 : ((kA : Int) == 1) = false := by have := H1.out; rw [beq_eq_false_iff_ne]; omega
  have hp2 : ((kA : Int) == 2) = true := eqB H1.out
  have hp4 : ((kA : Int) == 4) = false := by have := H1.out; rw [beq_eq_false_iff_ne]; omega
  clear HSB HK HI
  go_wp2_with fail
  refine (dec_any iA _ hiA).mono ?_
  rintro e w3 ⟨sd, rfl, hsd, hb3⟩
  have hsz : sd.size ≤ 11 := by
    have h := congrArg List.length hsd
    have h2 := dec_len11 iA hiA
    have h3 : sd.data.toList.length = sd.size := Array.length_toList
    omega
  have hq1 : (sa.toList == ((⟨#[114, 116, 109, 114]⟩ : ByteArray) ++ sd).toList) = true := by
    rw [ByteArray.toList_eq, ByteArray.toList_eq, HSA.out, ByteArray.data_append, Array.toList_append, hsd, H1.out]
    rw [show ((2 : Nat) : Int) = 2 from rfl, reg2]
    exact beq_self_eq_true _
  have hcA3 : w3.cell? ⟨w.heap.size, 0, none⟩ = some (.int .u8 kA) := by
    rw [hb3.cell (p := ⟨w.heap.size, 0, none⟩) (by show w.heap.size < w2.heap.size; exact hz2)]; exact hcA
  have hb13 : Below w.heap.size w w3 := below_call hb12 hb3
  clear hsd hcA HSA
  go_wp2
  go_ret
  exact ⟨rfl, hb13⟩

set_option maxHeartbeats 400000 in
theorem id_2_ine (F : Interp) (kA iA kB iB : Nat) (hkA : kA ≤ 255) (hiA : iA < 4294967296) (hkB : kB ≤ 255) (hiB : iB < 4294967296) (w : World) (hF : F.told.answers w.tape)
    (h1 : kA = 2) (hk : kA = kB) (hi : ¬ iA = iB) :
    Calls Tryf.prog 4 #[.int .u8 kA, .int .u32 iA, .int .u8 kB, .int .u32 iB] w fun e w' => e = .returned (.bool true) ∧ Below w.heap.size w w' := by
  have H1 : Hid (kA = 2) := h1
  clear h1
  have HK : Hid (kA = kB) := hk
  have HI : Hid (¬ iA = iB) := hi
  clear hk hi
  have HF : Hid (F.told.answers w.tape) := hF
  clear hF
  go_enter Tryf.func4, Tryf.ntmps4
  go_wp2_with fail
  refine (str_told F kA iA hkA hiA _ (by exact HF.out)).mono ?_
  rintro e w1 ⟨sa, rfl, hsa, hb1⟩
  have HF1 : Hid (F.told.answers w1.tape) := by
    show F.told.answers w1.tape
    rw [hb1.tape]; exact HF.out
  have HSA : Hid (sa.data.toList = regText kA iA) := hsa
  obtain ⟨hc1, hf1⟩ := bcell hb1
  have hz1 : w.heap.size + 1 < w1.heap.size := by have := hb1.size; simp at this; omega
  clear hsa
  go_wp2_with fail
  refine (str_told F kB iB hkB hiB _ (by exact HF1.out)).mono ?_
  rintro e w2 ⟨sb, rfl, hsb, hb2⟩
  have HSB : Hid (sb.data.toList = regText kB iB) := hsb
  have hcA : w2.cell? ⟨w.heap.size, 0, none⟩ = some (.int .u8 kA) := by
    rw [hb2.cell (p := ⟨w.heap.size, 0, none⟩) (by show w.heap.size < w1.heap.size; omega), hc1 w.heap.size 0 (by simp; omega)]
    simp
  have hz2 : w.heap.size < w2.heap.size := by have := hb2.size; omega
  have hb12 : Below w.heap.size w w2 := (((Below.refl _ _).alloc (Nat.le_refl _) _).alloc (by simp) _).trans ((below_call hb1 hb2).mono (by simp; omega))
  clear hsb HF HF1 hc1 hf1
  have hq := other_names hiA hiB HSA.out HSB.out (fun h => h.2.elim (fun h4 => by have := H1.out; omega) HI.out)
  have hkk := eqB HK.out
  have hii := neB HI.out
  have hp1 : ((kA : Int) == 1) = false := by have := H1.out; rw [beq_eq_false_iff_ne]; omega
  have hp2 : ((kA : Int) == 2) = true := eqB H1.out
  have hp4 : ((kA : Int) == 4) = false := by have := H1.out; rw [beq_eq_false_iff_ne]; omega
  clear HSB HK HI
  go_wp2_with fail
  refine (dec_any iA _ hiA).mono ?_
  rintro e w3 ⟨sd, rfl, hsd, hb3⟩
  have hsz : sd.size ≤ 11 := by
    have h := congrArg List.length hsd
    have h2 := dec_len11 iA hiA
    have h3 : sd.data.toList.length = sd.size := Array.length_toList
    omega
  have hq1 : (sa.toList == ((⟨#[114, 116, 109, 114]⟩ : ByteArray) ++ sd).toList) = true := by
    rw [ByteArray.toList_eq, ByteArray.toList_eq, HSA.out, ByteArray.data_append, Array.toList_append, hsd, H1.out]
    rw [show ((2 : Nat) : Int) = 2 from rfl, reg2]
    exact beq_self_eq_true _
  have hcA3 : w3.cell? ⟨w.heap.size, 0, none⟩ = some (.int .u8 kA) := by
    rw [hb3.cell (p := ⟨w.heap.size, 0, none⟩) (by show w.heap.size < w2.heap.size; exact hz2)]; exact hcA
  have hb13 : Below w.heap.size w w3 := below_call hb12 hb3
  clear hsd hcA HSA
  go_wp2
  go_ret
  exact ⟨rfl, hb13⟩

set_option maxHeartbeats 400000 in
theorem id_4_kne (F : Interp) (kA iA kB iB : Nat) (hkA : kA ≤ 255) (hiA : iA < 4294967296) (hkB : kB ≤ 255) (hiB : iB < 4294967296) (w : World) (hF : F.told.answers w.tape)
    (h1 : kA = 4) (hk : ¬ kA = kB) :
    Calls Tryf.prog 4 #[.int .u8 kA, .int .u32 iA, .int .u8 kB, .int .u32 iB] w fun e w' => e = .returned (.bool true) ∧ Below w.heap.size w w' := by
  have H1 : Hid (kA = 4) := h1
  clear h1
  have HK : Hid (¬ kA = kB) := hk
  clear hk
  have HF : Hid (F.told.answers w.tape) := hF
  clear hF
  go_enter Tryf.func4, Tryf.ntmps4
  go_wp2_with fail
  refine (str_told F kA iA hkA hiA _ (by exact HF.out)).mono ?_
  rintro e w1 ⟨sa, rfl, hsa, hb1⟩
  have HF1 : Hid (F.told.answers w1.tape) := by
    show F.told.answers w1.tape
    rw [hb1.tape]; exact HF.out
  have HSA : Hid (sa.data.toList = regText kA iA) := hsa
  obtain ⟨hc1, hf1⟩ := bcell hb1
  have hz1 : w.heap.size + 1 < w1.heap.size := by have := hb1.size; simp at this; omega
  clear hsa
  go_wp2_with fail
  refine (str_told F kB iB hkB hiB _ (by exact HF1.out)).mono ?_
  rintro e w2 ⟨sb, rfl, hsb, hb2⟩
  have HSB : Hid (sb.data.toList = regText kB iB) := hsb
  have hcA : w2.cell? ⟨w.heap.size, 0, none⟩ = some (.int .u8 kA) := by
    rw [hb2.cell (p := ⟨w.heap.size, 0, none⟩) (by show w.heap.size < w1.heap.size; omega), hc1 w.heap.size 0 (by simp; omega)]
    simp
  have hz2 : w.heap.size < w2.heap.size := by have := hb2.size; omega
  have hb12 : Below w.heap.size w w2 := (((Below.refl _ _).alloc (Nat.le_refl _) _).alloc (by simp) _).trans ((below_call hb1 hb2).mono (by simp; omega))
  clear hsb HF HF1 hc1 hf1
  have hq := other_names hiA hiB HSA.out HSB.out (fun h => HK.out h.1)
  have hkk := neB HK.out
  have hp1 : ((kA : Int) == 1) = false := by have := H1.out; rw [beq_eq_false_iff_ne]; omega
  have hp2 : ((kA : Int) == 2) = false := by have := H1.out; rw [beq_eq_false_iff_ne]; omega
  have hp4 : ((kA : Int) == 4) = true := eqB H1.out
  clear HSB HK
  clear HSA
  go_wp2
  go_ret
  exact ⟨rfl, hb12⟩

set_option maxHeartbeats 400000 in
theorem id_4_eq (F : Interp) (kA iA kB iB : Nat) (hkA : kA ≤ 255) (hiA : iA < 4294967296) (hkB : kB ≤ 255) (hiB : iB < 4294967296) (w : World) (hF : F.told.answers w.tape)
    (h1 : kA = 4) (hk : kA = kB) :
    Calls Tryf.prog 4 #[.int .u8 kA, .int .u32 iA, .int .u8 kB, .int .u32 iB] w fun e w' => e = .returned (.bool true) ∧ Below w.heap.size w w' := by
  have H1 : Hid (kA = 4) := h1
  clear h1
  have HK : Hid (kA = kB) := hk
  clear hk
  have HF : Hid (F.told.answers w.tape) := hF
  clear hF
  go_enter Tryf.func4, Tryf.ntmps4
  go_wp2_with fail
  refine (str_told F kA iA hkA hiA _ (by exact HF.out)).mono ?_
  rintro e w1 ⟨sa, rfl, hsa, hb1⟩
  have HF1 : Hid (F.told.answers w1.tape) := by
    show F.told.answers w1.tape
    rw [hb1.tape]; exact HF.out
  have HSA : Hid (sa.data.toList = regText kA iA) := hsa
  obtain ⟨hc1, hf1⟩ := bcell hb1
  have hz1 : w.heap.size + 1 < w1.heap.size := by have := hb1.size; simp at this; omega
  clear hsa
  go_wp2_with fail
  refine (str_told F kB iB hkB hiB _ (by exact HF1.out)).mono ?_
  rintro e w2 ⟨sb, rfl, hsb, hb2⟩
  have HSB : Hid (sb.data.toList = regText kB iB) := hsb
  have hcA : w2.cell? ⟨w.heap.size, 0, none⟩ = some (.int .u8 kA) := by
    rw [hb2.cell (p := ⟨w.heap.size, 0, none⟩) (by show w.heap.size < w1.heap.size; omega), hc1 w.heap.size 0 (by simp; omega)]
    simp
  have hz2 : w.heap.size < w2.heap.size := by have := hb2.size; omega
  have hb12 : Below w.heap.size w w2 := (((Below.refl _ _).alloc (Nat.le_refl _) _).alloc (by simp) _).trans ((below_call hb1 hb2).mono (by simp; omega))
  clear hsb HF HF1 hc1 hf1
  have hq := same_names hiA hiB HSA.out HSB.out ⟨HK.out, .inl H1.out⟩
  have hkk := eqB HK.out
  have hp1 : ((kA : Int) == 1) = false := by have := H1.out; rw [beq_eq_false_iff_ne]; omega
  have hp2 : ((kA : Int) == 2) = false := by have := H1.out; rw [beq_eq_false_iff_ne]; omega
  have hp4 : ((kA : Int) == 4) = true := eqB H1.out
  clear HSB HK
  clear HSA
  go_wp2
  go_ret
  exact ⟨rfl, hb12⟩

set_option maxHeartbeats 400000 in
theorem id_o_kne (F : Interp) (kA iA kB iB : Nat) (hkA : kA ≤ 255) (hiA : iA < 4294967296) (hkB : kB ≤ 255) (hiB : iB < 4294967296) (w : World) (hF : F.told.answers w.tape)
    (h1 : kA ≠ 1 ∧ kA ≠ 2 ∧ kA ≠ 4) (hk : ¬ kA = kB) :
    Calls Tryf.prog 4 #[.int .u8 kA, .int .u32 iA, .int .u8 kB, .int .u32 iB] w fun e w' => e = .returned (.bool true) ∧ Below w.heap.size w w' := by
  have H1 : Hid (kA ≠ 1 ∧ kA ≠ 2 ∧ kA ≠ 4) := h1
  clear h1
  have HK : Hid (¬ kA = kB) := hk
  clear hk
  have HF : Hid (F.told.answers w.tape) := hF
  clear hF
  go_enter Tryf.func4, Tryf.ntmps4
  go_wp2_with fail
  refine (str_told F kA iA hkA hiA _ (by exact HF.out)).mono ?_
  rintro e w1 ⟨sa, rfl, hsa, hb1⟩
  have HF1 : Hid (F.told.answers w1.tape) := by
    show F.told.answers w1.tape
    rw [hb1.tape]; exact HF.out
  have HSA : Hid (sa.data.toList = regText kA iA) := hsa
  obtain ⟨hc1, hf1⟩ := bcell hb1
  have hz1 : w.heap.size + 1 < w1.heap.size := by have := hb1.size; simp at this; omega
  clear hsa
  go_wp2_with fail
  refine (str_told F kB iB hkB hiB _ (by exact HF1.out)).mono ?_
  rintro e w2 ⟨sb, rfl, hsb, hb2⟩
  have HSB : Hid (sb.data.toList = regText kB iB) := hsb
  have hcA : w2.cell? ⟨w.heap.size, 0, none⟩ = some (.int .u8 kA) := by
    rw [hb2.cell (p := ⟨w.heap.size, 0, none⟩) (by show w.heap.size < w1.heap.size; omega), hc1 w.heap.size 0 (by simp; omega)]
    simp
  have hz2 : w.heap.size < w2.heap.size := by have := hb2.size; omega
  have hb12 : Below w.heap.size w w2 := (((Below.refl _ _).alloc (Nat.le_refl _) _).alloc (by simp) _).trans ((below_call hb1 hb2).mono (by simp; omega))
  clear hsb HF HF1 hc1 hf1
  have hq := other_names hiA hiB HSA.out HSB.out (fun h => HK.out h.1)
  have hkk := neB HK.out
  have hp1 : ((kA : Int) == 1) = false := by have := H1.out; rw [beq_eq_false_iff_ne]; omega
  have hp2 : ((kA : Int) == 2) = false := by have := H1.out; rw [beq_eq_false_iff_ne]; omega
  have hp4 : ((kA : Int) == 4) = false := by have := H1.out; rw [beq_eq_false_iff_ne]; omega
  clear HSB HK
  clear HSA
  go_wp2
  go_ret
  exact ⟨rfl, hb12⟩

set_option maxHeartbeats 400000 in
theorem id_o_ieq (F : Interp) (kA iA kB iB : Nat) (hkA : kA ≤ 255) (hiA : iA < 4294967296) (hkB : kB ≤ 255) (hiB : iB < 4294967296) (w : World) (hF : F.told.answers w.tape)
    (h1 : kA ≠ 1 ∧ kA ≠ 2 ∧ kA ≠ 4) (hk : kA = kB) (hi : iA = iB) :
    Calls Tryf.prog 4 #[.int .u8 kA, .int .u32 iA, .int .u8 kB, .int .u32 iB] w fun e w' => e = .returned (.bool true) ∧ Below w.heap.size w w' := by
  have H1 : Hid (kA ≠ 1 ∧ kA ≠ 2 ∧ kA ≠ 4) := h1
  clear h1
  have HK : Hid (kA = kB) := hk
  have HI : Hid (iA = iB) := hi
  clear hk hi
  have HF : Hid (F.told.answers w.tape) := hF
  clear hF
  go_enter Tryf.func4, Tryf.ntmps4
  go_wp2_with fail
  refine (str_told F kA iA hkA hiA _ (by exact HF.out)).mono ?_
  rintro e w1 ⟨sa, rfl, hsa, hb1⟩
  have HF1 : Hid (F.told.answers w1.tape) := by
    show F.told.answers w1.tape
    rw [hb1.tape]; exact HF.out
  have HSA : Hid (sa.data.toList = regText kA iA) := hsa
  obtain ⟨hc1, hf1⟩ := bcell hb1
  have hz1 : w.heap.size + 1 < w1.heap.size := by have := hb1.size; simp at this; omega
  clear hsa
  go_wp2_with fail
  refine (str_told F kB iB hkB hiB _ (by exact HF1.out)).mono ?_
  rintro e w2 ⟨sb, rfl, hsb, hb2⟩
  have HSB : Hid (sb.data.toList = regText kB iB) := hsb
  have hcA : w2.cell? ⟨w.heap.size, 0, none⟩ = some (.int .u8 kA) := by
    rw [hb2.cell (p := ⟨w.heap.size, 0, none⟩) (by show w.heap.size < w1.heap.size; omega), hc1 w.heap.size 0 (by simp; omega)]
    simp
  have hz2 : w.heap.size < w2.heap.size := by have := hb2.size; omega
  have hb12 : Below w.heap.size w w2 := (((Below.refl _ _).alloc (Nat.le_refl _) _).alloc (by simp) _).trans ((below_call hb1 hb2).mono (by simp; omega))
  clear hsb HF HF1 hc1 hf1
  have hq := same_names hiA hiB HSA.out HSB.out ⟨HK.out, .inr HI.out⟩
  have hkk := eqB HK.out
  have hii := eqB HI.out
  have hp1 : ((kA : Int) == 1) = false := by have := H1.out; rw [beq_eq_false_iff_ne]; omega
  have hp2 : ((kA : Int) == 2) = false := by have := H1.out; rw [beq_eq_false_iff_ne]; omega
  have hp4 : ((kA : Int) == 4) = false := by have := H1.out; rw [beq_eq_false_iff_ne]; omega
  clear HSB HK HI
  clear HSA
  go_wp2
  go_ret
  exact ⟨rfl, hb12⟩

set_option maxHeartbeats 400000 in
theorem id_o_ine (F : Interp) (kA iA kB iB : Nat) (hkA : kA ≤ 255) (hiA : iA < 4294967296) (hkB : kB ≤ 255) (hiB : iB < 4294967296) (w : World) (hF : F.told.answers w.tape)
    (h1 : kA ≠ 1 ∧ kA ≠ 2 ∧ kA ≠ 4) (hk : kA = kB) (hi : ¬ iA = iB) :
    Calls Tryf.prog 4 #[.int .u8 kA, .int .u32 iA, .int .u8 kB, .int .u32 iB] w fun e w' => e = .returned (.bool true) ∧ Below w.heap.size w w' := by
  have H1 : Hid (kA ≠ 1 ∧ kA ≠ 2 ∧ kA ≠ 4) := h1
  clear h1
  have HK : Hid (kA = kB) := hk
  have HI : Hid (¬ iA = iB) := hi
  clear hk hi
  have HF : Hid (F.told.answers w.tape) := hF
  clear hF
  go_enter Tryf.func4, Tryf.ntmps4
  go_wp2_with fail
  refine (str_told F kA iA hkA hiA _ (by exact HF.out)).mono ?_
  rintro e w1 ⟨sa, rfl, hsa, hb1⟩
  have HF1 : Hid (F.told.answers w1.tape) := by
    show F.told.answers w1.tape
    rw [hb1.tape]; exact HF.out
  have HSA : Hid (sa.data.toList = regText kA iA) := hsa
  obtain ⟨hc1, hf1⟩ := bcell hb1
  have hz1 : w.heap.size + 1 < w1.heap.size := by have := hb1.size; simp at this; omega
  clear hsa
  go_wp2_with fail
  refine (str_told F kB iB hkB hiB _ (by exact HF1.out)).mono ?_
  rintro e w2 ⟨sb, rfl, hsb, hb2⟩
  have HSB : Hid (sb.data.toList = regText kB iB) := hsb
  have hcA : w2.cell? ⟨w.heap.size, 0, none⟩ = some (.int .u8 kA) := by
    rw [hb2.cell (p := ⟨w.heap.size, 0, none⟩) (by show w.heap.size < w1.heap.size; omega), hc1 w.heap.size 0 (by simp; omega)]
    simp
  have hz2 : w.heap.size < w2.heap.size := by have := hb2.size; omega
  have hb12 : Below w.heap.size w w2 := (((Below.refl _ _).alloc (Nat.le_refl _) _).alloc (by simp) _).trans ((below_call hb1 hb2).mono (by simp; omega))
  clear hsb HF HF1 hc1 hf1
  have hq := other_names hiA hiB HSA.out HSB.out (fun h => h.2.elim (fun h4 => by have := H1.out; omega) HI.out)
  have hkk := eqB HK.out
  have hii := neB HI.out
  have hp1 : ((kA : Int) == 1) = false := by have := H1.out; rw [beq_eq_false_iff_ne]; omega
  have hp2 : ((kA : Int) == 2) = false := by have := H1.out; rw [beq_eq_false_iff_ne]; omega
  have hp4 : ((kA : Int) == 4) = false := by have := H1.out; rw [beq_eq_false_iff_ne]; omega
  clear HSB HK HI
  clear HSA
  go_wp2
  go_ret
  exact ⟨rfl, hb12⟩

/-- ████ THE WALK OF THE LAW, at every two registers. -/
theorem id_any (F : Interp) (kA iA kB iB : Nat) (hkA : kA ≤ 255) (hiA : iA < 4294967296) (hkB : kB ≤ 255) (hiB : iB < 4294967296) (w : World) (hF : F.told.answers w.tape) :
    Calls Tryf.prog 4 #[.int .u8 kA, .int .u32 iA, .int .u8 kB, .int .u32 iB] w fun e w' => e = .returned (.bool true) ∧ Below w.heap.size w w' := by
  by_cases h1 : kA = 1
  · by_cases hk : kA = kB
    · by_cases hi : iA = iB
      · exact id_1_ieq F kA iA kB iB hkA hiA hkB hiB w hF h1 hk hi
      · exact id_1_ine F kA iA kB iB hkA hiA hkB hiB w hF h1 hk hi
    · exact id_1_kne F kA iA kB iB hkA hiA hkB hiB w hF h1 hk
  by_cases h2 : kA = 2
  · by_cases hk : kA = kB
    · by_cases hi : iA = iB
      · exact id_2_ieq F kA iA kB iB hkA hiA hkB hiB w hF h2 hk hi
      · exact id_2_ine F kA iA kB iB hkA hiA hkB hiB w hF h2 hk hi
    · exact id_2_kne F kA iA kB iB hkA hiA hkB hiB w hF h2 hk
  by_cases h4 : kA = 4
  · by_cases hk : kA = kB
    · exact id_4_eq F kA iA kB iB hkA hiA hkB hiB w hF h4 hk
    · exact id_4_kne F kA iA kB iB hkA hiA hkB hiB w hF h4 hk
  by_cases hk : kA = kB
  · by_cases hi : iA = iB
    · exact id_o_ieq F kA iA kB iB hkA hiA hkB hiB w hF ⟨h1, h2, h4⟩ hk hi
    · exact id_o_ine F kA iA kB iB hkA hiA hkB hiB w hF ⟨h1, h2, h4⟩ hk hi
  · exact id_o_kne F kA iA kB iB hkA hiA hkB hiB w hF ⟨h1, h2, h4⟩ hk
end Go.Proofs.Qxb6608912aFmt
