import Derived.Test.Qxb6613789aRp6
namespace Go.Proofs.Qxb6613789a.Rp
open Go.RowKit
attribute [local go_sem ↓] Go.wp_at_zero Go.wp_at_succ

/-- The cells of a capture node. -/
theorem cap_cells {w : World} {N N' : Nat} {grp : Int} (h : CapAt w N N' grp) :
    N < w.heap.size ∧ ∃ M, M < w.heap.size ∧ w.cell? ⟨N, 0, none⟩ = some (.int .u8 5) ∧ w.cell? ⟨N, 2, none⟩ = some (.slice (some ⟨M, 0, none⟩) 1 1) ∧ w.cell? ⟨N, 6, none⟩ = some (.int .i64 grp) ∧ w.cell? ⟨M, 0, none⟩ = some (.pointer (some ⟨N', 0, none⟩)) := by
  obtain ⟨M, h1, h2⟩ := h
  refine ⟨block_lt h1, M, block_lt h2, ?_, ?_, ?_, ?_⟩
  · rw [cell_of_row w N 0 _ _ (0, 0) h1]; rfl
  · rw [cell_of_row w N 2 _ _ (0, 0) h1]; rfl
  · rw [cell_of_row w N 6 _ _ (0, 0) h1]; rfl
  · rw [cell_of_row w M 0 _ _ (0, 0) h2]; rfl
theorem chars_ne {w : World} {C base N S : Nat} {v : Value} {is : List In} {L : Int} (h : Comp w C base v is L) (hN : CharsAt w N S) : N ≠ C := by
  rintro rfl
  have := h.blk
  rw [hN] at this
  simp at this

/-- What one captured class compiles to. -/
def bodyI (S : Nat) (lo hi grp : Int) : List In := [{ op := 4, n := grp }, charI S lo hi, { op := 5, n := grp }]

set_option maxRecDepth 100000 in
set_option maxHeartbeats 4000000 in
theorem node_cap (N N' S : Nat) (lo hi grp : Int) (is : List In) (C base B : Nat) (v : Value) (loops : Int) (w : World) (hN : CapAt w N N' grp) (hN' : CharsAt w N' S) (hS : ∀ W, Below B w W → OneSet W S lo hi) (h : Comp w C base v is loops) (hB : B ≤ base) (hC : B ≤ C) (hbase : base ≤ w.heap.size) (hn : is.length ≤ 80000) :
    Calls Try.prog 33 #[.pointer (some ⟨C, 0, none⟩), .pointer (some ⟨N, 0, none⟩)] w fun e w' => e = .returned .nilIface ∧ (∃ v', Comp w' C base v' (is ++ bodyI S lo hi grp) loops) ∧ Kept w w' C ∧ Below B w w' := by
  have hne := chars_ne h hN'
  have hcap : ∀ W, Kept w W C → CapAt W N N' grp := fun W hk => hN.kept hk ⟨_, _, h.blk⟩
  have hem := emit_any { op := 4, n := grp } is C base B v loops w h hB hC hbase (by omega)
  obtain ⟨hNw, M, hMw, n0, n2, n6, m0⟩ := cap_cells hN
  clear hN
  go_enter Try.func33, Try.ntmps33
  go_wp2_with fail
  refine hem.mono ?_
  clear hem n0 n2 n6 m0
  rintro e w1 ⟨rfl, ⟨v1, hc1⟩, hk1, hb1⟩
  obtain ⟨hNw1, M1, hMw1, n0, n2, n6, m0⟩ := cap_cells (hcap w1 hk1)
  have hnd := node_chars N' S lo hi _ C base B v1 loops w1 (hN'.kept hk1 hne) (hS w1 hb1) hc1 hB hC (by have := hb1.size; omega) (by simp; omega)
  clear hc1
  go_wp2_with fail
  refine hnd.mono ?_
  clear hnd n0 n2 n6 m0
  rintro e w2 ⟨rfl, ⟨v2, hc2⟩, hk2, hb2⟩
  have hk12 := hk1.trans hk2
  have hb12 := hb1.trans hb2
  obtain ⟨hNw2, M2, hMw2, n0, n2, n6, m0⟩ := cap_cells (hcap w2 hk12)
  have hem := emit_any { op := 5, n := grp } _ C base B v2 loops w2 hc2 hB hC (by have := hb12.size; omega) (by simp; omega)
  clear hc2 hk1 hk2 hb1 hb2 hcap
  go_wp2_with fail
  refine hem.mono ?_
  clear hem n0 n2 n6 m0
  rintro e w3 ⟨rfl, ⟨v3, hc3⟩, hk3, hb3⟩
  have hc4 : Comp w3 C base v3 (is ++ bodyI S lo hi grp) loops := by simpa [bodyI, List.append_assoc] using hc3
  have HC3 : Hid (Comp w3 C base v3 (is ++ bodyI S lo hi grp) loops) := hc4
  clear hc3 hc4
  go_wp2_with fail
  go_ret
  exact ⟨rfl, ⟨v3, HC3.out⟩, hk12.trans hk3, hb12.trans hb3⟩

/-- firstChars hands these back: no empty match, and what is known. -/
def Firsts (e : Ending) : Prop := ∃ S : Nat, e = .returned (.tuple #[.pointer (some ⟨S, 0, none⟩), .bool false, .bool true])

set_option maxRecDepth 100000 in
set_option maxHeartbeats 1000000 in
theorem first_chars (N S : Nat) (w : World) (hN : CharsAt w N S) :
    Calls Try.prog 44 #[.pointer (some ⟨N, 0, none⟩)] w fun e w' => Firsts e ∧ Below w.heap.size w w' := by
  have hNw := block_lt hN
  go_enter Try.func44, Try.ntmps44
  go_wp2_with fail
  refine (Cs.newSet_nil 0 w).mono ?_
  intro e w1 hm
  obtain ⟨S1, _, _, _, _, _, rfl, _, _, _, _, hb⟩ := hm
  have hN1 : CharsAt w1 N S := (hb.block N hNw).trans hN
  have n0 : w1.cell? ⟨N, 0, none⟩ = some (.int .u8 1) := by rw [cell_of_row w1 N 0 _ _ (0, 0) hN1]; rfl
  have n1 : w1.cell? ⟨N, 1, none⟩ = some (.pointer (some ⟨S, 0, none⟩)) := by rw [cell_of_row w1 N 1 _ _ (0, 0) hN1]; rfl
  have hNw1 := block_lt hN1
  clear hN hN1
  go_wp2_with fail
  exact bodyPost_ret (v := .tuple #[.pointer (some ⟨S, 0, none⟩), .bool false, .bool true]) (by simp [results, Try.results44, go_sem]) rfl ⟨⟨S, rfl⟩, hb⟩

set_option maxRecDepth 100000 in
set_option maxHeartbeats 1000000 in
theorem first_cap (N N' S : Nat) (grp : Int) (w : World) (hN : CapAt w N N' grp) (hN' : CharsAt w N' S) :
    Calls Try.prog 44 #[.pointer (some ⟨N, 0, none⟩)] w fun e w' => Firsts e ∧ Below w.heap.size w w' := by
  obtain ⟨M0, h1, h2⟩ := hN
  go_enter Try.func44, Try.ntmps44
  go_wp2_with fail
  refine (Cs.newSet_nil 0 w).mono ?_
  intro e w1 hm
  obtain ⟨S1, _, _, _, _, _, rfl, _, _, _, _, hb⟩ := hm
  have hc : CapAt w1 N N' grp := ⟨M0, (hb.block N (block_lt h1)).trans h1, (hb.block M0 (block_lt h2)).trans h2⟩
  have hf := first_chars N' S w1 ((hb.block N' (block_lt hN')).trans hN')
  obtain ⟨hNw1, M, hMw1, n0, n2, n6, m0⟩ := cap_cells hc
  clear hc h1 h2 hN'
  go_wp2_with fail
  refine hf.mono ?_
  clear hf
  rintro e w2 ⟨⟨S2, rfl⟩, hb2⟩
  go_wp2_with fail
  exact bodyPost_ret (v := .tuple #[.pointer (some ⟨S2, 0, none⟩), .bool false, .bool true]) (by simp [results, Try.results44, go_sem]) rfl ⟨⟨S2, rfl⟩, hb.trans (hb2.mono hb.size)⟩
end Go.Proofs.Qxb6613789a.Rp
