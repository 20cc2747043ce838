/-
  What the five listed variables give: shared by both laws.
-/
import Derived.Test.Qxb6608537aDoorRows
import Derived.ProofKit
import Derived.LaidMore
import Derived.OpenShut
import Derived.ShutString
import Derived.Stop.LaidErr
import Derived.SevenTiedAt
namespace Go.Proofs.Qxb6608537aDoor
open Go.ChangeShapes Go.WideShapes Go.ChangeAt Go.RowKit
open Go.ChangeMaps (open_string shut_string)

/-- The five listed variables, as the row lists them. -/
abbrev laid5 : List (String × DataW Unit) := Rows.fnParseLengthIsTheDecimalValueRow.laid

theorem own : ownKnob Tryd.prog.godebug = none := by kernel_rfl

/-- The name of a listed variable's dynamic type. -/
def nameOf : DataW Unit → String
  | .iface n _ => n
  | _ => ""
def errName : String := nameOf Rows.laid_strconv_ErrRange
theorem gER : Tryd.prog.globalNamed "strconv.ErrRange" = some 2 := by kernel_rfl
theorem gERType : (Tryd.prog.globals[2]?).map (·.type) = some 24 := by kernel_rfl
theorem cells94 : Tryd.prog.cellsOf 94 = 1 := by kernel_rfl
theorem cells9 : Tryd.prog.cellsOf 9 = 1 := by kernel_rfl
theorem row92 (u : TypeId) (h : Tryd.prog.typeName? 3 u = some errName) : u = 92 :=
  typeName_ptr_named (nm := "errors.errorString") (by kernel_rfl) (by kernel_rfl) (by decide) u (by rw [h]; exact congrArg some (by decide))

/-- What the condition gives the walks: strconv.ErrRange holds a value of an interface type. -/
theorem of_laid {W : World} (h : laidMetH Tryd.prog laid5 W) : ∃ ev, W.cell? ⟨2, 0, none⟩ = some ev ∧ (ev = .nilIface ∨ ∃ te pe, ev = .iface te pe) := by
  rw [MakeChecks.laidMetH_plain _ _ _ (by kernel_rfl)] at h
  obtain ⟨a0, s0, hv0, -, -, -⟩ := laid_sentinel h.tail.tail.tail gER gERType Tryd.underlying24 row92 Tryd.underlying92 Tryd.underlying94 rfl rfl Tryd.underlying9 cells94 cells9
  refine ⟨.iface 92 (.pointer (some a0)), ?_, .inr ⟨_, _, rfl⟩⟩
  have h0 := World.var?_cell gER hv0 0
  simpa using h0

/-- The door's own heap meets the condition: three closed facts. -/
theorem door_met (os : Os) (args : Array Value) : laidMetH Tryd.prog laid5 ((World.doorLaid Tryd.prog 100 os).forCall (fun _ _ => 0) ⟨#[], args, []⟩).memory :=
  laidMetH_of_parts3 (fuel := 8) (laidMet_of_run' 8 (by kernel_rfl) (by kernel_rfl)) (by kernel_rfl) (by kernel_rfl)

end Go.Proofs.Qxb6608537aDoor
