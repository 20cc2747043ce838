/-
  Limit.apply, ZZapplyTo, ZZlimit.
-/
import Derived.Test.Qxb6609109aProg
import Derived.WalkKit
import Derived.OwnWalk
import Derived.Below
import Derived.Deep.RegionLaw
import Derived.WalkSmall
import Derived.Lib.SmallJoins
namespace Go.Proofs.Qxb6609109a
open Go.RowKit

/-- append onto a row of the call's own, as one step of a region that draws. -/
theorem step_append_own {P : Program} {ops : Array Oper} {o : Oper} {a : Act} {w : World} {K : Act → World → Prop} {Q : Exit → Act → World → Prop} {E : Prop}
    (hg : o.guard = none) (s x : Operand) (t : TypeId) (hop : o.op = Op.call { callee := Callee.builtin Builtin.append, args := #[s, x], argTypes := #[t, t] })
    (base : Nat) (e : TypeId) (i : TypeInfo) (z : Value) (size bytes : Nat) (h1 : P.underlying t = some (.slice e)) (h2 : P.info? e = some i) (h3 : i.zero = some z) (h4 : i.size = size) (h5 : i.bytes = bytes) (h6 : z.cells.size = size) (h7 : 0 < size)
    (v : Value) (n : Nat) (xs : List Value) (hs : a.eval s = v) (hown : w.ownsRow base e size v n xs)
    (ad : Addr) (m c : Nat) (news : List Value) (hx : a.eval x = .slice (some ad) m c) (hn : news.length = m * size) (hc : ∀ j u, news[j]? = some u → w.cell? (ad.add j) = some u) (h1c : ∀ u ∈ news, u.oneCell' = true)
    (b1 : n + m ≤ maxLen) (b2 : (n + m) * bytes ≤ 140737488355328) (hbase : base ≤ w.heap.size)
    (hK : ∀ v' w', w'.ownsRow base e size v' (n + m) (xs ++ news) → w.grownBy w' v.ownBlock → K (a.put o.dst v') w') :
    if Region.wanted o (yielded ops a.tmps) = true then Oper.wp P o a w K Q else E := by
  have hw : Region.wanted o (yielded ops a.tmps) = true := by simp [Region.wanted, hg]
  rw [if_pos hw]
  exact wp_append_own w s x t hop base e i z size bytes h1 h2 h3 h4 h5 h6 h7 v n xs hs hown ad m c news hx hn hc h1c b1 b2 hbase (fun v' w' r1 r2 _ => hK v' w' r1 r2)

set_option maxHeartbeats 400000 in
theorem zzlimit_any (c p : Int) (w : World) :
    Calls Try.prog 10 #[.int .i64 c, .int .i64 p] w fun e w' => e = .returned (.agg #[.int .i64 c, .int .i64 p]) ∧ w' = w.alloc (.cells #[.int .i64 c, .int .i64 p] 32) := by
  go_enter Try.func10, Try.ntmps10
  go_wp2
  exact bodyPost_ret (v := .agg #[.int .i64 c, .int .i64 p]) (by simp [results, Try.results10, go_sem]) rfl ⟨rfl, rfl⟩

theorem info32 : (Try.prog.info? 32).map (fun i => (i.zero, i.size, i.bytes)) = some (some (.agg #[.int .i64 0, .int .i64 0]), 2, 16) := by kernel_rfl

/-- The two cells of the one new element. -/
theorem news_cells {W : World} {b : Nat} {x y : Value} (h0 : W.cell? ⟨b, 0, none⟩ = some x) (h1 : W.cell? ⟨b, 1, none⟩ = some y) :
    ∀ j u, [x, y][j]? = some u → W.cell? ((⟨b, 0, none⟩ : Addr).add j) = some u := by
  intro j u hj
  match j, hj with
  | 0, hj => simp at hj; subst hj; simpa [Addr.add] using h0
  | 1, hj => simp at hj; subst hj; simpa [Addr.add] using h1

theorem row_apart {w : World} {base n cb : Nat} {v : Value} {xs : List Value} {cs : Array Value} (h : w.ownsRow base 32 2 v n xs) (hb : w.heap[cb]? = some (.cells cs 58 (0, 0))) : v.ownBlock = none ∨ v.ownBlock ≠ some cb := by
  rcases h.2 with ⟨rfl, _⟩ | ⟨g, cap, cur, rfl, _, hg, _⟩
  · exact .inl rfl
  · refine .inr ?_
    intro e
    have e2 : g = cb := by simpa [Value.ownBlock] using e
    subst e2
    rw [hg] at hb
    cases hb

theorem grown_setCell (w : World) (cb : Nat) (x : Value) : w.grownBy (w.setCell ⟨cb, 0, none⟩ x) (some cb) := by
  refine ⟨rfl, rfl, rfl, by simp [World.setCell], ?_⟩
  intro k _ hne
  have h2 : ¬ cb = k := fun e => hne (by rw [e])
  simp only [World.setCell]
  rw [Array.getElem?_modify, if_neg h2]

theorem below_grown {base : Nat} {w w' : World} {row : Option Nat} (h : w.grownBy w' row) (hb : base ≤ w.heap.size) (hr : ∀ k, row = some k → base ≤ k) : Below base w w' :=
  ⟨h.os, h.tape, h.output, h.size, fun k hk => h.block k (by omega) (fun e => by have := hr k e.symm; omega)⟩

theorem own_base {w : World} {base n : Nat} {v : Value} {xs : List Value} (h : w.ownsRow base 32 2 v n xs) : ∀ k, v.ownBlock = some k → base ≤ k := fun k hk => (h.lt k hk).1

theorem kept_block {w w1 : World} {cb : Nat} {cs : Array Value} {row : Option Nat} {o1 o2 : Obj} (hb : w.heap[cb]? = some (.cells cs 58 (0, 0))) (hcb : cb < w.heap.size) (hr : row ≠ some cb) (hg : ((w.alloc o1).alloc o2).drew.grownBy w1 row) :
    w1.heap[cb]? = some (.cells cs 58 (0, 0)) := by
  have hb2 : Below w.heap.size w ((w.alloc o1).alloc o2).drew := (((Below.refl _ _).alloc (Nat.le_refl _) o1).alloc (by simp) o2).drew
  rw [hg.block cb (Nat.lt_of_lt_of_le hcb hb2.size) (fun e => hr e.symm), hb2.block cb hcb]
  exact hb
theorem block_cell {w : World} {cb : Nat} {cs : Array Value} {v : Value} (hb : w.heap[cb]? = some (.cells cs 58 (0, 0))) (hc : cs[0]? = some v) : w.cell? ⟨cb, 0, none⟩ = some v ∧ w.frozen? ⟨cb, 0, none⟩ = false :=
  ⟨by simp [World.cell?, hb, hc], by simp [World.frozen?, hb]⟩
theorem hide_own {w : World} {base n : Nat} {v : Value} {xs : List Value} (h : w.ownsRow base 32 2 v n xs) : Hid (w.ownsRow base 32 2 v n xs) := h
theorem hide_grown {w w1 : World} {row : Option Nat} (h : w.grownBy w1 row) : Hid (w.grownBy w1 row) := h
theorem hide_block {w : World} {cb : Nat} {cs : Array Value} (h : w.heap[cb]? = some (.cells cs 58 (0, 0))) : Hid (w.heap[cb]? = some (.cells cs 58 (0, 0))) := h

/-- What the store into the config leaves. -/
theorem apply_end {w w1 : World} {base n n1 cb : Nat} {cs : Array Value} {v v0 v1 : Value} {xs xs1 : List Value} {o1 o2 : Obj}
    (hb : w1.heap[cb]? = some (.cells cs 58 (0, 0))) (hc : cs[0]? = some v0) (ho : w1.ownsRow base 32 2 v1 n1 xs1) (hg : ((w.alloc o1).alloc o2).drew.grownBy w1 v.ownBlock) (hcb : cb < w.heap.size) (hbc : base ≤ cb) (hr : w.ownsRow base 32 2 v n xs) :
    (w1.setCell ⟨cb, 0, none⟩ v1).cell? ⟨cb, 0, none⟩ = some v1 ∧ (w1.setCell ⟨cb, 0, none⟩ v1).ownsRow base 32 2 v1 n1 xs1 ∧ Below base w (w1.setCell ⟨cb, 0, none⟩ v1) := by
  have hb2 : Below base w ((w.alloc o1).alloc o2).drew := (((Below.refl _ _).alloc (by omega) o1).alloc (by simp; omega) o2).drew
  have hb3 : Below base ((w.alloc o1).alloc o2).drew w1 := below_grown hg (by have := hb2.size; omega) (own_base hr)
  refine ⟨?_, ho.kept (grown_setCell w1 cb v1) (row_apart ho hb), (hb2.trans hb3).trans (below_grown (grown_setCell w1 cb v1) (by have := (hb2.trans hb3).size; omega) (fun k e => by cases e; exact hbc))⟩
  have h0 : 0 < cs.size := by
    rcases Nat.lt_or_ge 0 cs.size with h | h
    · exact h
    · rw [Array.getElem?_eq_none h] at hc; cases hc
  have hlt : cb < w1.heap.size := by
    rcases Nat.lt_or_ge cb w1.heap.size with h | h
    · exact h
    · rw [Array.getElem?_eq_none h] at hb; cases hb
  simp only [World.cell?, World.setCell]
  rw [Array.getElem?_modify, if_pos rfl, hb]
  simp [h0]

set_option maxHeartbeats 400000 in
theorem apply_any (c p : Int) (cb base n cap : Nat) (ao : Option Addr) (xs : List Value) (cs : Array Value) (w : World)
    (hblk : w.heap[cb]? = some (.cells cs 58 (0, 0))) (hcs : cs[0]? = some (.slice ao n cap)) (hown : w.ownsRow base 32 2 (.slice ao n cap) n xs) (hbc : base ≤ cb) (hn : n ≤ 4096) :
    Calls Try.prog 13 #[.agg #[.int .i64 c, .int .i64 p], .pointer (some ⟨cb, 0, none⟩)] w fun e w' => e = .returned (.tuple #[]) ∧ ∃ g cap', w'.cell? ⟨cb, 0, none⟩ = some (.slice (some ⟨g, 0, none⟩) (n + 1) cap') ∧ w'.ownsRow base 32 2 (.slice (some ⟨g, 0, none⟩) (n + 1) cap') (n + 1) (xs ++ [.int .i64 c, .int .i64 p]) ∧ Below base w w' := by
  have hcb : cb < w.heap.size := by
    rcases Nat.lt_or_ge cb w.heap.size with h | h
    · exact h
    · rw [Array.getElem?_eq_none h] at hblk; cases hblk
  have hcell : w.cell? ⟨cb, 0, none⟩ = some (.slice ao n cap) := by simp [World.cell?, hblk, hcs]
  obtain ⟨i0, hi, hz⟩ := Option.map_eq_some_iff.1 info32
  obtain ⟨hz0, hz1, hz2⟩ : i0.zero = some (.agg #[.int .i64 0, .int .i64 0]) ∧ i0.size = 2 ∧ i0.bytes = 16 := by simpa using hz
  have HI : Hid (Try.prog.info? 32 = some i0 ∧ i0.zero = some (.agg #[.int .i64 0, .int .i64 0]) ∧ i0.size = 2 ∧ i0.bytes = 16) := ⟨hi, hz0, hz1, hz2⟩
  have HO : Hid (∀ o1 o2, ((w.alloc o1).alloc o2).ownsRow base 32 2 (.slice ao n cap) n xs) := fun o1 o2 => (hown.alloc o1).alloc o2
  have HB : Hid (w.heap[cb]? = some (.cells cs 58 (0, 0))) := hblk
  have HR2 : Hid (w.ownsRow base 32 2 (.slice ao n cap) n xs) := hown
  have HCS : Hid (cs[0]? = some (.slice ao n cap)) := hcs
  have HR : Hid ((Value.slice ao n cap).ownBlock ≠ some cb) := by
    rcases row_apart hown hblk with h | h
    · intro e; rw [h] at e; cases e
    · exact h
  clear hz hi hz0 hz1 hz2 hown hblk hcs
  go_enter Try.func13, Try.ntmps13
  go_wp2
  go_region_law (refine step_append_own rfl (.tmp 8) (.tmp 10) 25 rfl base 32 i0 (.agg #[.int .i64 0, .int .i64 0]) 2 16 Try.underlying25 HI.out.1 HI.out.2.1 HI.out.2.2.1 HI.out.2.2.2 rfl (by decide) (.slice ao n cap) n xs (by simp [Act.eval]) (by exact HO.out _ _) ⟨w.heap.size + 1, 0, none⟩ 1 1 [.int .i64 c, .int .i64 p] (by simp [Act.eval]) rfl (news_cells (by simp) (by simp)) (by simp [Value.oneCell']) (by unfold maxLen; omega) (by omega) (by simp; omega) ?_; intro v1 w1 ho hg; obtain ⟨g, cap1, rfl⟩ := Joins.ownsRow_form ho (by omega); have hB1 := kept_block HB.out hcb HR.out hg; obtain ⟨hc1, hf1⟩ := block_cell hB1 HCS.out; have HO1 := hide_own ho; have HG1 := hide_grown hg; have HB1 := hide_block hB1; clear ho hg hB1)
  all_goals
    go_end0
    exact ⟨rfl, g, cap1, apply_end HB1.out HCS.out HO1.out HG1.out hcb hbc HR2.out⟩
end Go.Proofs.Qxb6609109a
