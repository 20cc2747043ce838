/-
  A slice of strings that came in, opened.
-/
import Derived.Test.Qxb6609138aFin
import Derived.SliceStrings
import Derived.OpenShut
import Derived.ChangeOld
namespace Go.Proofs.Qxb6609138a
open Go.ChangeShapes Go.WideShapes Go.ChangeAt Go.RowKit

theorem own : ownKnob Try.prog.godebug = none := by kernel_rfl
theorem laidOut : laidOutB Try.prog = true := by kernel_rfl

theorem opened {H : Type} {enc : TypeId × Value → H} {W : World} {a : Option Addr} {len cap : Nat} {d : DataW H} {ps : List MemPlace} (h : DataW.Trod enc Try.prog W 0 (fun _ => true) true 34 (.slice a len cap) d ps) :
    ∃ L : List ByteArray, L.length = len ∧ StrRow W a L ∧ ∀ s ∈ L, s.size ≤ maxLen := by
  obtain ⟨fuel, hf⟩ := h
  rcases open_strings Try.underlying34 Try.underlying9 (by kernel_rfl) hf with ⟨hcs, _⟩ | ⟨x, l, c, ss, hcs, _, hl, hm, hz, _, hcell, hwz⟩
  · simp [Value.cells] at hcs
    obtain ⟨rfl, rfl, rfl⟩ := hcs
    exact ⟨[], rfl, .inl rfl, fun s hs => by cases hs⟩
  · simp [Value.cells] at hcs
    obtain ⟨rfl, rfl, rfl⟩ := hcs
    have hz' : ss.length = cap := by simpa using hz
    refine ⟨ss.take len, by rw [List.length_take]; omega, ?_, fun s hs => hwz s (List.mem_of_mem_take hs)⟩
    by_cases h0 : len = 0
    · left; subst h0; rfl
    · right
      obtain ⟨b, off, spot⟩ := x
      have hspot : spot = none := by simpa [Addr.add] using World.cell?_spot (hcell 0 (by omega))
      subst hspot
      have hcell2 : ∀ j, j < ss.length → W.cell? ⟨b, off + j, none⟩ = some (.string (ss.getD j ByteArray.empty)) := fun j hj => by rw [← Go.WideShapes.add_plain]; exact hcell j hj
      refine ⟨b, off, rfl, Lib.lt_of_cell (hcell2 0 (by omega)), fun i hi => ?_⟩
      have hi2 : i < ss.length := by rw [List.length_take] at hi; omega
      rw [hcell2 i hi2]
      simp [List.getD, hi2]
end Go.Proofs.Qxb6609138a
