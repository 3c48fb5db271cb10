import Derived.Test.Qxb6613789aRp4
import Derived.BigRegion
namespace Go.Proofs.Qxb6613789a.Rp
open Go.RowKit
attribute [local go_sem ↓] Go.wp_at_zero Go.wp_at_succ

/-! ### A store into one of the instructions -/
theorem flatI_set (is : List In) (j : Nat) (hj : j < is.length) (c : Nat) (hc : c < 16) (u : Value) (i' : In) (hv : (is[j]).vals.set c u = i'.vals) : (flatI is).set (j * 16 + c) u = flatI (is.set j i') := by
  induction is generalizing j with
  | nil => simp at hj
  | cons a m ih =>
    have e : flatI (a :: m) = a.vals ++ flatI m := rfl
    cases j with
    | zero =>
      have hv' : a.vals.set c u = i'.vals := hv
      rw [e, Nat.zero_mul, Nat.zero_add, List.set_append_left _ _ (by rw [In.vals_length]; exact hc), hv']
      rfl
    | succ j =>
      rw [e, List.set_append_right _ _ (by rw [In.vals_length]; omega), In.vals_length, show (j + 1) * 16 + c - 16 = j * 16 + c by omega, ih j (by simpa using hj) hv]
      rfl

/-- What stands behind some steps of the compiler: its instructions are 'is'; nothing else has turned. -/
structure Now (w w' : World) (C base B : Nat) (g n cap : Nat) (is : List In) (L : Int) : Prop where
  comp : Comp w' C base (.slice (some ⟨g, 0, none⟩) n cap) is L
  len : is.length = n
  kept : Kept w w' C
  below : Below B w w'
  ge : B ≤ g

theorem Now.store {w w' : World} {C base B g n cap : Nat} {is : List In} {L : Int} (h : Now w w' C base B g n cap is L) (j c : Nat) (u : Value) (i' : In) (hj : j < is.length) (hc : c < 16) (hv : (is[j]).vals.set c u = i'.vals) :
    Now w (w'.setCell ⟨g, j * 16 + c, none⟩ u) C base B g n cap (is.set j i') L := by
  obtain ⟨⟨hb, ho⟩, hl, hk, hbel, hg⟩ := h
  obtain ⟨cur, hcur⟩ := own_tag (k := g) ho rfl
  have hne : C ≠ g := by rintro rfl; rw [hb] at hcur; simp at hcur
  rw [hl] at ho
  refine ⟨⟨(Below.heap_setCell _ _ _ _ hne).trans hb, ?_⟩, by simpa using hl, ?_, hbel.setCell hg _, hg⟩
  · rw [List.length_set, hl, ← flatI_set is j hj c hc u i' hv]
    exact (ho.stored (j * 16 + c) u).1
  · intro k cs t h1 h2 h3
    rw [Below.heap_setCell _ _ _ _ (show k ≠ g from fun e => by
      have := hk k cs t h1 h2 h3
      rw [e, hcur] at this
      simp at this
      exact h2 this.2.symm)]
    exact hk k cs t h1 h2 h3
theorem Now.drewN {w w' : World} {C base B g n cap : Nat} {is : List In} {L : Int} (h : Now w w' C base B g n cap is L) (q : Nat) : Now w (w'.drewN q) C base B g n cap is L :=
  ⟨h.comp.drewN q, h.len, h.kept.drewN q, below_drewN h.below q, h.ge⟩
theorem Now.trans {w w' w'' : World} {C base B g n cap g' n' cap' : Nat} {is is' : List In} {L L' : Int} (h : Now w w' C base B g n cap is L) (h' : Now w' w'' C base B g' n' cap' is' L') : Now w w'' C base B g' n' cap' is' L' :=
  ⟨h'.comp, h'.len, h.kept.trans h'.kept, h.below.trans h'.below, h'.ge⟩
/-- Out of a step's own words. -/
theorem now_of {w w' : World} {C base B : Nat} {v : Value} {is : List In} {L : Int} (h : Comp w' C base v is L) (hk : Kept w w' C) (hb : Below B w w') (hB : B ≤ base) (hn : 0 < is.length) : ∃ g cap, v = .slice (some ⟨g, 0, none⟩) is.length cap ∧ Now w w' C base B g is.length cap is L := by
  obtain ⟨g, cap, rfl, hg, _⟩ := h.own.form hn
  exact ⟨g, cap, rfl, h, rfl, hk, hb, by omega⟩
/-- The cells that a walk wants of it. -/
theorem Now.cells {w w' : World} {C base B g n cap : Nat} {is : List In} {L : Int} (h : Now w w' C base B g n cap is L) : C < w'.heap.size ∧ g < w'.heap.size ∧ w'.cell? ⟨C, 0, none⟩ = some (.slice (some ⟨g, 0, none⟩) n cap) ∧ w'.cell? ⟨C, 1, none⟩ = some (.int .i64 L) ∧ w'.frozen? ⟨C, 1, none⟩ = false := by
  obtain ⟨cur, hcur⟩ := own_tag (k := g) h.comp.own rfl
  refine ⟨block_lt h.comp.blk, block_lt hcur, ?_, ?_, frozen_of_row w' C 1 _ _ h.comp.blk⟩
  · rw [cell_of_row w' C 0 _ _ (0, 0) h.comp.blk]; rfl
  · rw [cell_of_row w' C 1 _ _ (0, 0) h.comp.blk]; rfl
theorem Now.at {w w' : World} {C base B g n cap : Nat} {is : List In} {L : Int} (h : Now w w' C base B g n cap is L) (j c : Nat) (hj : j < is.length) (hc : c < 16) : w'.cell? ⟨g, j * 16 + c, none⟩ = (is[j]).vals[c]? ∧ w'.frozen? ⟨g, j * 16 + c, none⟩ = false := by
  have ho := h.comp.own
  rw [h.len] at ho
  have hl := h.len
  exact ⟨(ho.cellAt (j * 16 + c) (by omega)).trans (flatI_get is j hj c hc), ho.frozenAt _⟩

/-- The cells of a repeat node. -/
theorem rep_cells {w : World} {N N' : Nat} {mn mx : Int} {lz : Bool} (h : RepAt w N N' mn mx lz) :
    N < w.heap.size ∧ ∃ M, M < w.heap.size ∧ w.cell? ⟨N, 2, none⟩ = some (.slice (some ⟨M, 0, none⟩) 1 1) ∧ w.cell? ⟨N, 3, none⟩ = some (.int .i64 mn) ∧ w.cell? ⟨N, 4, none⟩ = some (.int .i64 mx) ∧ w.cell? ⟨N, 5, none⟩ = some (.bool lz) ∧ w.cell? ⟨M, 0, none⟩ = some (.pointer (some ⟨N', 0, none⟩)) := by
  obtain ⟨M, h1, h2⟩ := h
  refine ⟨block_lt h1, M, block_lt h2, ?_, ?_, ?_, ?_, ?_⟩
  · rw [cell_of_row w N 2 _ _ (0, 0) h1]; rfl
  · rw [cell_of_row w N 3 _ _ (0, 0) h1]; rfl
  · rw [cell_of_row w N 4 _ _ (0, 0) h1]; rfl
  · rw [cell_of_row w N 5 _ _ (0, 0) h1]; rfl
  · rw [cell_of_row w M 0 _ _ (0, 0) h2]; rfl
theorem RepAt.kept {w w' : World} {C N N' : Nat} {mn mx : Int} {lz : Bool} (h : RepAt w N N' mn mx lz) (hk : Kept w w' C) (hc : ∃ v L, w.heap[C]? = some (.cells #[v, .int .i64 L] 67)) : RepAt w' N N' mn mx lz := by
  obtain ⟨M, h1, h2⟩ := h
  obtain ⟨v, L, hc⟩ := hc
  refine ⟨M, hk _ _ _ ?_ (by decide) h1, hk _ _ _ ?_ (by decide) h2⟩
  · rintro rfl; rw [h1] at hc; simp at hc
  · rintro rfl; rw [h2] at hc; simp at hc

set_option maxRecDepth 100000 in
set_option maxHeartbeats 1000000 in
/-- repeat at max 0: nothing. -/
theorem repeat_zero (N N' C : Nat) (mn : Int) (lz : Bool) (w : World) (hN : RepAt w N N' mn 0 lz) :
    Calls Try.prog 34 #[.pointer (some ⟨C, 0, none⟩), .pointer (some ⟨N, 0, none⟩)] w fun e w' => e = .returned .nilIface ∧ w = w' := by
  obtain ⟨hNw, M, hMw, n2, n3, n4, n5, m0⟩ := rep_cells hN
  clear hN
  go_enter Try.func34, Try.ntmps34
  go_wp2_with fail
  go_ret
  exact ⟨rfl, rfl⟩

set_option maxRecDepth 100000 in
set_option maxHeartbeats 4000000 in
theorem repeat_chars (N N' S : Nat) (lo hi mn mx : Int) (lz : Bool) (is : List In) (C base B : Nat) (v : Value) (loops : Int) (w : World) (hN : RepAt w N N' mn mx lz) (hN' : CharsAt w N' S) (hS : OneSet w S lo hi) (h : Comp w C base v is loops) (hB : B ≤ base) (hC : B ≤ C) (hbase : base ≤ w.heap.size) (hn : is.length ≤ 90000) (hmx : mx ≠ 0) :
    Calls Try.prog 34 #[.pointer (some ⟨C, 0, none⟩), .pointer (some ⟨N, 0, none⟩)] w fun e w' => e = .returned .nilIface ∧ (∃ v', Comp w' C base v' (is ++ [{ charI S lo hi with op := 1, min := mn, max := mx, lazy := lz }]) loops) ∧ Kept w w' C ∧ Below B w w' := by
  have hnd := node_chars N' S lo hi is C base B v loops w hN' hS h hB hC hbase hn
  have hrep : ∀ w', Kept w w' C → RepAt w' N N' mn mx lz := fun w' hk => hN.kept hk ⟨_, _, h.blk⟩
  obtain ⟨hNw, M, hMw, n2, n3, n4, n5, m0⟩ := rep_cells hN
  have k0 : w.cell? ⟨N', 0, none⟩ = some (.int .u8 1) := by rw [cell_of_row w N' 0 _ _ (0, 0) hN']; rfl
  have hNw' := block_lt hN'
  clear hN hN' hS
  go_enter Try.func34, Try.ntmps34
  go_wp2_with fail
  refine hnd.mono ?_
  clear hnd n2 n3 n4 n5 m0 k0
  rintro e w1 ⟨rfl, ⟨v1, hc1⟩, hk1, hb1⟩
  obtain ⟨hNw1, M1, hMw1, n2, n3, n4, n5, m0⟩ := rep_cells (hrep w1 hk1)
  obtain ⟨g, cap, rfl, hnow⟩ := now_of hc1 hk1 hb1 hB (by simp)
  clear hc1 hk1 hb1 hrep
  have hl : (is ++ [charI S lo hi]).length = is.length + 1 := by simp
  rw [hl] at hnow
  obtain ⟨hCw, hgw, c0, c1, _⟩ := hnow.cells
  have hat : (is ++ [charI S lo hi])[is.length]'(by simp) = charI S lo hi := by simp
  have w0 := fun c hc => hnow.at is.length c (by simp) hc
  rw [hat] at w0
  have y0 : w1.cell? ⟨g, is.length * 16 + 0, none⟩ = some (.int .u8 (charI S lo hi).op) := (w0 0 (by omega)).1.trans rfl
  have y6 : w1.cell? ⟨g, is.length * 16 + 6, none⟩ = some (.int .i64 (charI S lo hi).min) := (w0 6 (by omega)).1.trans rfl
  have y7 : w1.cell? ⟨g, is.length * 16 + 7, none⟩ = some (.int .i64 (charI S lo hi).max) := (w0 7 (by omega)).1.trans rfl
  have y8 : w1.cell? ⟨g, is.length * 16 + 8, none⟩ = some (.bool (charI S lo hi).lazy) := (w0 8 (by omega)).1.trans rfl
  have z0 := (w0 0 (by omega)).2
  have z6 := (w0 6 (by omega)).2
  have z7 := (w0 7 (by omega)).2
  have z8 := (w0 8 (by omega)).2
  rw [Nat.add_zero] at y0 z0
  clear w0
  have hst : ∀ q, Now w (((((w1.drewN q).setCell ⟨g, is.length * 16, none⟩ (.int .u8 1)).setCell ⟨g, is.length * 16 + 6, none⟩ (.int .i64 mn)).setCell ⟨g, is.length * 16 + 7, none⟩ (.int .i64 mx)).setCell ⟨g, is.length * 16 + 8, none⟩ (.bool lz)) C base B g (is.length + 1) cap (is ++ [{ charI S lo hi with op := 1, min := mn, max := mx, lazy := lz }]) loops := by
    intro q
    have s1 := (hnow.drewN q).store is.length 0 (.int .u8 1) { charI S lo hi with op := 1 } (by simp) (by omega) (by rw [hat]; rfl)
    have s2 := s1.store is.length 6 (.int .i64 mn) { charI S lo hi with op := 1, min := mn } (by simp) (by omega) (by simp; rfl)
    have s3 := s2.store is.length 7 (.int .i64 mx) { charI S lo hi with op := 1, min := mn, max := mx } (by simp) (by omega) (by simp; rfl)
    have s4 := s3.store is.length 8 (.bool lz) { charI S lo hi with op := 1, min := mn, max := mx, lazy := lz } (by simp) (by omega) (by simp; rfl)
    simpa using s4
  have HST : Hid (∀ q, Now w (((((w1.drewN q).setCell ⟨g, is.length * 16, none⟩ (.int .u8 1)).setCell ⟨g, is.length * 16 + 6, none⟩ (.int .i64 mn)).setCell ⟨g, is.length * 16 + 7, none⟩ (.int .i64 mx)).setCell ⟨g, is.length * 16 + 8, none⟩ (.bool lz)) C base B g (is.length + 1) cap (is ++ [{ charI S lo hi with op := 1, min := mn, max := mx, lazy := lz }]) loops) := hst
  clear hst hnow hl hat
  generalize is.length = L at *
  have hL0 : (0 : Int) ≤ (L : Int) := Int.natCast_nonneg _
  have hL1 : (L : Int) ≤ 90000 := by omega
  go_wp2_with fail
  go_quiet (fail)
  go_wp2_with fail
  go_region
  go_wp2_with fail
  go_ret
  have hf := HST.out (nq + 1)
  exact ⟨rfl, ⟨_, hf.comp⟩, hf.kept, hf.below⟩
end Go.Proofs.Qxb6613789a.Rp
