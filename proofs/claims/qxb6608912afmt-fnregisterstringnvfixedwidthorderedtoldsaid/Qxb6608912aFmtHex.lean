/-
  zzHex8: eight hex digits, written from the end of an array.
-/
import Derived.Test.Qxb6608912aFmtMath
import Derived.Laws.BytesArg
namespace Go.Proofs.Qxb6608912aFmt
open Go.RowKit

/-- What the array holds after some rounds: the last digits. -/
def Tail (c : Nat) (all : List UInt8) (front : List UInt8) (m : Nat) (C : Array Value) : Prop :=
  C.size = c ∧ ∃ suf : List UInt8, m + suf.length = c ∧ all = front ++ suf ∧ ∀ j (h : j < suf.length), C[m + j]? = some (.int .u8 (suf[j].toNat : Int))

theorem Tail.start {c : Nat} {all : List UInt8} {C : Array Value} (h : C.size = c) : Tail c all all c C :=
  ⟨h, [], by simp, by simp, fun j hj => by simp at hj⟩
theorem Tail.step {c : Nat} {all front : List UInt8} {d : UInt8} {m : Nat} {C : Array Value} (h : Tail c all (front ++ [d]) (m + 1) C) :
    Tail c all front m (C.setIfInBounds m (.int .u8 (d.toNat : Int))) := by
  obtain ⟨hc, suf, h1, h2, h3⟩ := h
  refine ⟨by simpa using hc, d :: suf, by simp; omega, by rw [h2]; simp, ?_⟩
  intro j hj
  rcases j with _ | j
  · rw [Nat.add_zero, Array.getElem?_setIfInBounds]; simp; omega
  · rw [Array.getElem?_setIfInBounds, if_neg (by omega), show m + (j + 1) = m + 1 + j from by omega, h3 j (by simpa using hj)]
    rfl
theorem Tail.done {c : Nat} {all : List UInt8} {m : Nat} {C : Array Value} (h : Tail c all [] m C) :
    m + all.length = c ∧ C.size = c ∧ ∀ j (h : j < all.length), C[m + j]? = some (.int .u8 (all[j].toNat : Int)) := by
  obtain ⟨hc, suf, h1, h2, h3⟩ := h
  rw [List.nil_append] at h2
  subst h2
  exact ⟨h1, hc, h3⟩

/-- 'string(buf[m:])' of such an array. -/
theorem conv_tail {c : Nat} {all : List UInt8} {m : Nat} {C : Array Value} (h : Tail c all [] m C) (w : World) (t : TypeId) :
    ∃ s : ByteArray, s.data.toList = all ∧ ∀ len cap, len = all.length → (convert 44 9 (.slice (some ⟨w.heap.size, m, none⟩) len cap)).run Tryf.prog (w.alloc (.cells C t)) = .ok (.string s) (w.alloc (.cells C t)) := by
  obtain ⟨h1, hc, h3⟩ := h.done
  refine ⟨strOfNums (all.map fun x => (x.toNat : Int)), ?_, ?_⟩
  · rw [strOfNums_data, List.map_map]
    conv => rhs; rw [← List.map_id all]
    apply List.map_congr_left
    intro x _
    simp
  · intro len cap hlen
    refine run_convert_bytes_arg (P := Tryf.prog) _ 44 5 Tryf.underlying44 Tryf.underlying5 w.heap.size m len cap _ (by simp [hlen]) ?_ 9 Tryf.underlying9
    intro i hi
    rw [World.cell?_alloc_new]
    have hi' : i < all.length := by omega
    rw [h3 i hi']
    simp [List.getD, hi']

theorem and15 (u : Nat) (h : u < 4294967296) : bits BinOp.and IntKind.u32 (u : Int) 15 = ((u % 16 : Nat) : Int) := by
  have e32 : (2 : Nat) ^ 32 = 4294967296 := by decide
  have f32 : (2 : Int) ^ 32 = 4294967296 := by decide
  have h2 := (bits_nat .u32 32 (by decide) (fun n h0 h1 => by rw [IntKind.wrap_u32]; omega) u 15 (by omega) (by omega)).1
  have h3 : u &&& 15 = u % 16 := Nat.and_two_pow_sub_one_eq_mod u 4
  rw [h3] at h2
  exact h2

set_option maxRecDepth 100000 in
set_option maxHeartbeats 400000 in
theorem hex8_any (n : Nat) (w : World) (hn : n < 4294967296) :
    Calls Tryf.prog 10 #[.int .u32 n] w fun e w' => ∃ s : ByteArray, e = .returned (.string s) ∧ s.data.toList = fixed 8 n ∧ Below w.heap.size w w' := by
  go_enter Tryf.func10, Tryf.ntmps10
  go_wp2
  go_loopw [0, 4] (fun v k wr => ∃ (u m : Nat) (z : Int) (C : Array Value), z = (m : Int) - 1 ∧ m ≤ 8 ∧ u < 4294967296 ∧ k = .int .i64 z ∧ v = .int .u32 u ∧ wr = w.alloc (.cells C 45) ∧ C.size = 8 ∧ Hid (Tail 8 (fixed 8 n) (fixed m u) m C)) (fun _ k _ => (intOf k + 1).toNat)
  case atStart =>
    refine ⟨n, 8, 7, _, by omega, by omega, hn, rfl, rfl, rfl, rfl, Tail.start rfl⟩
  case round =>
    obtain ⟨u, m, z, C, hz, hm, hu, rfl, rfl, rfl, hC, HT⟩ := hrel
    rcases m with _ | m
    · have hz' : z = -1 := by omega
      subst hz'
      clear hz
      obtain ⟨s, hs, hconv0⟩ := conv_tail HT.out w 45
      have hconv := fun cap => hconv0 8 cap (by rw [fixed_len])
      have HS : Hid (s.data.toList = fixed 8 n) := hs
      clear hs hconv0
      go_wp2
      go_ret
      exact ⟨s, rfl, HS.out, (Below.refl _ _).alloc (Nat.le_refl _) _⟩
    · have hz' : z = (m : Int) := by omega
      subst hz'
      clear hz
      obtain ⟨cv, hcv⟩ : ∃ cv, C[m]? = some cv := ⟨C[m], Array.getElem?_eq_getElem (by omega)⟩
      have HT' := HT.out
      rw [fixed_succ m u] at HT'
      have hd : u % 16 < 16 := by omega
      have hand := and15 u hu
      have hq : hexd (u % 16) = hexd (u % 16) := rfl
      generalize u % 16 = d at hd hand HT' hq
      have HX : Hid (Tail 8 (fixed 8 n) (fixed m (u / 16)) m (C.setIfInBounds m (.int .u8 ((hexd d).toNat : Int)))) := HT'.step
      clear HT' hq
      by_cases h10 : d < 10
      · have HE : Hid (((hexd d).toNat : Int) = 48 + (d : Int)) := by
          show ((hexd d).toNat : Int) = 48 + (d : Int)
          rw [hexd_toNat hd, if_pos h10]; omega
        go_wp2
        go_roundw
        case rel =>
          refine ⟨u / 16, m, _, _, rfl, by omega, by omega, rfl, by go_num, rfl, by simpa using hC, ?_⟩
          have h9 := HX.out
          rw [HE.out] at h9
          exact h9
        case measure => simp [intOf]
      · have HE : Hid (((hexd d).toNat : Int) = 97 + (d : Int) - 10) := by
          show ((hexd d).toNat : Int) = 97 + (d : Int) - 10
          rw [hexd_toNat hd, if_neg h10]; omega
        go_wp2
        go_roundw
        case rel =>
          refine ⟨u / 16, m, _, _, rfl, by omega, by omega, rfl, by go_num, rfl, by simpa using hC, ?_⟩
          have h9 := HX.out
          rw [HE.out] at h9
          exact h9
        case measure => simp [intOf]
end Go.Proofs.Qxb6608912aFmt
