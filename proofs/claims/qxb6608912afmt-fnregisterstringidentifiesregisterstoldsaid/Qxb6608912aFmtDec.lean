/-
  zzDec: a decimal numeral, written from the end of an array.
-/
import Derived.Test.Qxb6608912aFmtHex
namespace Go.Proofs.Qxb6608912aFmt
open Go.RowKit

theorem Tail.room {c : Nat} {all front : List UInt8} {m : Nat} {C : Array Value} (h : Tail c all front m C) (hl : all.length ≤ c) : front.length ≤ m := by
  obtain ⟨_, suf, h1, h2, _⟩ := h
  have := congrArg List.length h2
  rw [List.length_append] at this
  omega
theorem digit_val (u : Nat) : ((UInt8.ofNat (48 + u % 10)).toNat : Int) = 48 + (u : Int) % 10 := by
  rw [toNat_digit (by omega)]; omega

/-- 'buf[m:]' of the array of ten. -/
theorem slice_ten (W : World) (b m : Nat) (h : m < 10) :
    (Instr.sliceAt 43 (.pointer (some ⟨b, 0, none⟩)) (some (.int .i64 (m : Int))) none none).run Tryf.prog W = .ok (.slice (some ⟨b, m, none⟩) (10 - m) (10 - m)) W := by
  have ha : Tryf.prog.arrayLen 43 = 10 := by kernel_rfl
  have hs : (sizeOf (Tryf.prog.elem 43)).run Tryf.prog W = .ok 1 W := by kernel_rfl
  rw [run_sliceAt_array_l W 43 ⟨b, 0, none⟩ (by kernel_rfl) .i64 (m : Int) (by omega) (by rw [ha]; omega), hs, ha]
  simp only [Result.andThen, slicedAt]
  rw [if_neg (by omega)]
  simp [Addr.add]
  intro h0; omega

set_option maxHeartbeats 400000 in
theorem dec_nought (w : World) :
    Calls Tryf.prog 9 #[.int .u32 0] w fun e w' => ∃ s : ByteArray, e = .returned (.string s) ∧ s.data.toList = [48] ∧ Below w.heap.size w w' := by
  go_enter Tryf.func9, Tryf.ntmps9
  go_wp2
  go_ret
  exact ⟨_, rfl, rfl, Below.refl _ _⟩

set_option maxRecDepth 100000 in
set_option maxHeartbeats 400000 in
theorem dec_pos (n : Nat) (w : World) (hn : n < 4294967296) (hp : 0 < n) :
    Calls Tryf.prog 9 #[.int .u32 n] w fun e w' => ∃ s : ByteArray, e = .returned (.string s) ∧ s.data.toList = decP n ∧ Below w.heap.size w w' := by
  have HL : Hid ((decP n).length ≤ 10) := decP_len 10 n (by have : (10 : Nat) ^ 10 = 10000000000 := by decide
                                                            omega)
  have HP : Hid (0 < (decP n).length) := decP_len_pos hp
  go_enter Tryf.func9, Tryf.ntmps9
  go_wp2
  go_loopw [0, 4] (fun v k wr => ∃ (u m : Nat) (C : Array Value), m ≤ 10 ∧ u < 4294967296 ∧ k = .int .i64 m ∧ v = .int .u32 u ∧ wr = w.alloc (.cells C 43) ∧ C.size = 10 ∧ Hid (Tail 10 (decP n) (decP u) m C)) (fun _ k _ => (intOf k).toNat)
  case atStart =>
    refine ⟨n, 10, _, by omega, hn, rfl, rfl, rfl, rfl, Tail.start rfl⟩
  case round =>
    obtain ⟨u, m, C, hm, hu, rfl, rfl, rfl, hC, HT⟩ := hrel
    by_cases hu0 : 0 < u
    · have hr := HT.out.room HL.out
      have hr2 := decP_len_pos hu0
      obtain ⟨m, rfl⟩ : ∃ k, m = k + 1 := ⟨m - 1, by omega⟩
      obtain ⟨cv, hcv⟩ : ∃ cv, C[m]? = some cv := ⟨C[m], Array.getElem?_eq_getElem (by omega)⟩
      have HT' := HT.out
      rw [decP_step hu0] at HT'
      have HX : Hid (Tail 10 (decP n) (decP (u / 10)) m (C.setIfInBounds m (.int .u8 (48 + (u : Int) % 10)))) := by
        show Tail 10 (decP n) (decP (u / 10)) m (C.setIfInBounds m (.int .u8 (48 + (u : Int) % 10)))
        rw [← digit_val]; exact HT'.step
      clear HT' hr hr2 HT
      go_wp2
      go_roundw
      case rel => exact ⟨u / 10, m, _, by omega, by omega, by go_num, by go_num, rfl, by simpa using hC, HX⟩
      case measure => simp [intOf]
    · have hu' : u = 0 := by omega
      subst hu'
      have HT' := HT.out
      rw [decP_zero] at HT'
      obtain ⟨s, hs, hconv0⟩ := conv_tail HT' w 43
      have hd := HT'.done
      have hm10 : m < 10 := by have := HP.out; omega
      have hconv := fun cap => hconv0 (10 - m) cap (by omega)
      have hsl := slice_ten (w.alloc (.cells C 43)) w.heap.size m hm10
      have HS : Hid (s.data.toList = decP n) := hs
      clear hs hconv0 HT' hd HT
      go_wp2
      go_ret
      exact ⟨s, rfl, HS.out, (Below.refl _ _).alloc (Nat.le_refl _) _⟩
/-- zzDec: the decimal numeral. -/
theorem dec_any (n : Nat) (w : World) (hn : n < 4294967296) :
    Calls Tryf.prog 9 #[.int .u32 n] w fun e w' => ∃ s : ByteArray, e = .returned (.string s) ∧ s.data.toList = Lib.decDigits n ∧ Below w.heap.size w w' := by
  rcases Nat.eq_zero_or_pos n with h | h
  · subst h
    rw [dec_small (by omega)]
    exact dec_nought w
  · rw [← decP_pos h]
    exact dec_pos n w hn h
end Go.Proofs.Qxb6608912aFmt
