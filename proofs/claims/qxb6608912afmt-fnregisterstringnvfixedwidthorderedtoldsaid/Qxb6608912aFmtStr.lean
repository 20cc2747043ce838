/-
  Register.String: the walks, for whatever fmt answers; then fmt's text told.
-/
import Derived.Test.Qxb6608912aFmtFacts
import Derived.WalkKit
import Derived.WalkSpells
import Derived.Below
import Derived.Stop.Texts
import Derived.Stop.Told
import Derived.Stop.FmtTextKit
import Derived.Stop.FmtTextBases
namespace Go.Proofs.Qxb6608912aFmt
open Go.RowKit Go.Extern.Stop Go.Stop Go.Extern

attribute [local go_sem] call12 guard fmtP fmtPr fmtR fmtRr fmtN fmtNr fmtX fmtXr op22d op22x op29d

/-- What fmt is asked, an index alone. -/
def ask1 (f : List UInt8) (i : Int) : List (List UInt8) := [f, shape22, digits 8 (i % 18446744073709551616).toNat]
/-- What fmt is asked, a kind and an index. -/
def ask2 (f : List UInt8) (k i : Int) : List (List UInt8) := [f, shape29, digits 8 (k % 18446744073709551616).toNat, shape22, digits 8 (i % 18446744073709551616).toNat]

/-- The name of a register. -/
def regText (k i : Int) : List UInt8 :=
  if k = 1 then [112, 99, 114] ++ Lib.itoa i
  else if k = 2 then [114, 116, 109, 114] ++ Lib.itoa i
  else if k = 3 then [110, 118, 48, 120] ++ FmtText.hexZeros false false 8 i
  else if k = 4 then [109, 114, 116, 100]
  else [114, 101, 103, 105, 115, 116, 101, 114, 40, 107, 105, 110, 100, 32] ++ (Lib.itoa k ++ ([44, 32, 105, 110, 100, 101, 120, 32] ++ (Lib.itoa i ++ [41])))

set_option maxHeartbeats 400000 in
theorem str1 (F : Interp) (i : Int) (w : World) (hF : F.answers w.tape) :
    Calls Tryf.prog 8 #[.agg #[.int .u8 1, .int .u32 i]] w fun e w' => e = .returned (.string (FmtStop.textOf (F "fmt.Sprintf" (ask1 [112, 99, 114, 37, 100] i) 0))) ∧ Below w.heap.size w w' := by
  have hF' := answers_open hF
  go_enter Tryf.func8, Tryf.ntmps8
  go_wp2
  go_ret
  exact ⟨rfl, (((Below.refl _ _).alloc (Nat.le_refl _) _).alloc (by simp) _).drew⟩

set_option maxHeartbeats 400000 in
theorem str2 (F : Interp) (i : Int) (w : World) (hF : F.answers w.tape) :
    Calls Tryf.prog 8 #[.agg #[.int .u8 2, .int .u32 i]] w fun e w' => e = .returned (.string (FmtStop.textOf (F "fmt.Sprintf" (ask1 [114, 116, 109, 114, 37, 100] i) 0))) ∧ Below w.heap.size w w' := by
  have hF' := answers_open hF
  go_enter Tryf.func8, Tryf.ntmps8
  go_wp2
  go_ret
  exact ⟨rfl, (((Below.refl _ _).alloc (Nat.le_refl _) _).alloc (by simp) _).drew⟩

set_option maxHeartbeats 400000 in
theorem str3 (F : Interp) (i : Int) (w : World) (hF : F.answers w.tape) :
    Calls Tryf.prog 8 #[.agg #[.int .u8 3, .int .u32 i]] w fun e w' => e = .returned (.string (FmtStop.textOf (F "fmt.Sprintf" (ask1 [110, 118, 48, 120, 37, 48, 56, 120] i) 0))) ∧ Below w.heap.size w w' := by
  have hF' := answers_open hF
  go_enter Tryf.func8, Tryf.ntmps8
  go_wp2
  go_ret
  exact ⟨rfl, (((Below.refl _ _).alloc (Nat.le_refl _) _).alloc (by simp) _).drew⟩

set_option maxHeartbeats 400000 in
theorem str4 (i : Int) (w : World) :
    Calls Tryf.prog 8 #[.agg #[.int .u8 4, .int .u32 i]] w fun e w' => e = .returned (.string ⟨#[109, 114, 116, 100]⟩) ∧ Below w.heap.size w w' := by
  go_enter Tryf.func8, Tryf.ntmps8
  go_wp2
  go_ret
  exact ⟨rfl, (Below.refl _ _).alloc (Nat.le_refl _) _⟩

set_option maxHeartbeats 400000 in
theorem strX (F : Interp) (k i : Int) (w : World) (hF : F.answers w.tape) (h1 : (k == 1) = false) (h2 : (k == 2) = false) (h3 : (k == 3) = false) (h4 : (k == 4) = false) :
    Calls Tryf.prog 8 #[.agg #[.int .u8 k, .int .u32 i]] w fun e w' => e = .returned (.string (FmtStop.textOf (F "fmt.Sprintf" (ask2 [114, 101, 103, 105, 115, 116, 101, 114, 40, 107, 105, 110, 100, 32, 37, 100, 44, 32, 105, 110, 100, 101, 120, 32, 37, 100, 41] k i) 0))) ∧ Below w.heap.size w w' := by
  have hF' := answers_open hF
  go_enter Tryf.func8, Tryf.ntmps8
  go_wp2
  go_ret
  exact ⟨rfl, (((Below.refl _ _).alloc (Nat.le_refl _) _).alloc (by simp) _).drew⟩

theorem parseP : (FmtText.parse [112, 99, 114, 37, 100]).map FmtText.glue = some [.lit [112, 99, 114], .verb {} 100] := by rfl
theorem parseR : (FmtText.parse [114, 116, 109, 114, 37, 100]).map FmtText.glue = some [.lit [114, 116, 109, 114], .verb {} 100] := by rfl
theorem parseN : (FmtText.parse [110, 118, 48, 120, 37, 48, 56, 120]).map FmtText.glue = some [.lit [110, 118, 48, 120], .verb { widPresent := true, wid := 8, zero := true } 120] := by rfl
theorem parseX : (FmtText.parse [114, 101, 103, 105, 115, 116, 101, 114, 40, 107, 105, 110, 100, 32, 37, 100, 44, 32, 105, 110, 100, 101, 120, 32, 37, 100, 41]).map FmtText.glue = some [.lit [114, 101, 103, 105, 115, 116, 101, 114, 40, 107, 105, 110, 100, 32], .verb {} 100, .lit [44, 32, 105, 110, 100, 101, 120, 32], .verb {} 100, .lit [41]] := by rfl

theorem textP (i : Int) (hw : (Lit.int .u32 i).wf = true) : FmtText.text "fmt.Sprintf" (ask1 [112, 99, 114, 37, 100] i) = some (regText 1 i) := by
  have hi := FmtText.operand_int_at (sh := shape22) (k := .u32) rfl rfl i hw
  rw [ask1, FmtText.text_sprintf_glued parseP (FmtText.operands_cons hi FmtText.operands_nil)]
  simp [FmtText.render, FmtText.printArg_d _ _ hw, regText]
theorem textR (i : Int) (hw : (Lit.int .u32 i).wf = true) : FmtText.text "fmt.Sprintf" (ask1 [114, 116, 109, 114, 37, 100] i) = some (regText 2 i) := by
  have hi := FmtText.operand_int_at (sh := shape22) (k := .u32) rfl rfl i hw
  rw [ask1, FmtText.text_sprintf_glued parseR (FmtText.operands_cons hi FmtText.operands_nil)]
  simp [FmtText.render, FmtText.printArg_d _ _ hw, regText]
theorem textN (i : Int) (hw : (Lit.int .u32 i).wf = true) : FmtText.text "fmt.Sprintf" (ask1 [110, 118, 48, 120, 37, 48, 56, 120] i) = some (regText 3 i) := by
  have hi := FmtText.operand_int_at (sh := shape22) (k := .u32) rfl rfl i hw
  rw [ask1, FmtText.text_sprintf_glued parseN (FmtText.operands_cons hi FmtText.operands_nil)]
  simp [FmtText.render, FmtText.printArg_x_zero _ false 8 _ hw, regText]
theorem textX (k i : Int) (hk : (Lit.int .u8 k).wf = true) (hw : (Lit.int .u32 i).wf = true) (h1 : k ≠ 1) (h2 : k ≠ 2) (h3 : k ≠ 3) (h4 : k ≠ 4) : FmtText.text "fmt.Sprintf" (ask2 [114, 101, 103, 105, 115, 116, 101, 114, 40, 107, 105, 110, 100, 32, 37, 100, 44, 32, 105, 110, 100, 101, 120, 32, 37, 100, 41] k i) = some (regText k i) := by
  have hi := FmtText.operand_int_at (sh := shape22) (k := .u32) rfl rfl i hw
  have hj := FmtText.operand_int_at (sh := shape29) (k := .u8) rfl rfl k hk
  rw [ask2, FmtText.text_sprintf_glued parseX (FmtText.operands_cons hj (FmtText.operands_cons hi FmtText.operands_nil))]
  simp [FmtText.render, FmtText.printArg_d _ _ hw, FmtText.printArg_d _ _ hk, regText, h1, h2, h3, h4]
end Go.Proofs.Qxb6608912aFmt
