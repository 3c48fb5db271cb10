import Derived.Test.Qxb6613789aRc1
namespace Go.Proofs.Qxb6613789a.Rp
open Go.RowKit
attribute [local go_sem ↓] Go.wp_at_zero Go.wp_at_succ

set_option maxRecDepth 100000 in
set_option maxHeartbeats 2000000 in
theorem repcap_one (N K N' S : Nat) (lo hi grp : Int) (lz : Bool) (is : List In) (C base B : Nat) (v : Value) (loops : Int) (w : World) (hN : RepAt w N K 1 1 lz) (hK : CapAt w K N' grp) (hN' : CharsAt w N' S) (hS : ∀ W, Below B w W → OneSet W S lo hi) (h : Comp w C base v is loops) (hB : B ≤ base) (hC : B ≤ C) (hbase : base ≤ w.heap.size) (hn : is.length ≤ 70000) :
    Calls Try.prog 34 #[.pointer (some ⟨C, 0, none⟩), .pointer (some ⟨N, 0, none⟩)] w fun e w' => e = .returned .nilIface ∧ (∃ v', Comp w' C base v' (is ++ bodyI S lo hi grp) loops) ∧ Kept w w' C ∧ Below B w w' := by
  have hnd := node_cap K N' S lo hi grp is C base B v loops w hK hN' hS h hB hC hbase (by omega)
  obtain ⟨hNw, M, hMw, n2, n3, n4, n5, m0⟩ := rep_cells hN
  obtain ⟨hKw, _, _, k0, _, _, _⟩ := cap_cells hK
  clear hN hK hN' hS h
  go_enter Try.func34, Try.ntmps34
  go_wp2_with fail
  refine hnd.mono ?_
  clear hnd
  rintro e w1 ⟨rfl, ⟨v1, hc1⟩, hk1, hb1⟩
  have HC : Hid (Comp w1 C base v1 (is ++ bodyI S lo hi grp) loops) := hc1
  clear hc1 n2 n3 n4 n5 m0 k0
  go_wp2_with fail
  go_ret
  exact ⟨rfl, ⟨v1, HC.out⟩, hk1, hb1⟩

theorem Now.at2 {w w' : World} {C base B g n cap : Nat} {is : List In} {L : Int} (h : Now w w' C base B g n cap is L) (j c : Nat) (i : In) (hj : is[j]? = some i) (hc : c < 16) : w'.cell? ⟨g, j * 16 + c, none⟩ = i.vals[c]? ∧ w'.frozen? ⟨g, j * 16 + c, none⟩ = false := by
  obtain ⟨hlt, he⟩ := List.getElem?_eq_some_iff.1 hj
  have := h.at j c hlt hc
  rw [he] at this
  exact this
theorem Now.store2 {w w' : World} {C base B g n cap : Nat} {is : List In} {L : Int} (h : Now w w' C base B g n cap is L) (j c : Nat) (u : Value) (i i' : In) (hj : is[j]? = some i) (hc : c < 16) (hv : i.vals.set c u = i'.vals) :
    Now w (w'.setCell ⟨g, j * 16 + c, none⟩ u) C base B g n cap (is.set j i') L := by
  obtain ⟨hlt, he⟩ := List.getElem?_eq_some_iff.1 hj
  exact h.store j c u i' hlt hc (by rw [he]; exact hv)
theorem get_mid (is : List In) (i : In) (tl : List In) : (is ++ i :: tl)[is.length]? = some i := by simp
theorem set_mid (is : List In) (i j : In) (tl : List In) : (is ++ i :: tl).set is.length j = is ++ j :: tl := by simp

set_option maxRecDepth 100000 in
set_option maxHeartbeats 4000000 in
theorem repcap_opt (N K N' S : Nat) (lo hi grp : Int) (lz : Bool) (is : List In) (C base B : Nat) (v : Value) (loops : Int) (w : World) (hN : RepAt w N K 0 1 lz) (hK : CapAt w K N' grp) (hN' : CharsAt w N' S) (hS : ∀ W, Below B w W → OneSet W S lo hi) (h : Comp w C base v is loops) (hB : B ≤ base) (hC : B ≤ C) (hbase : base ≤ w.heap.size) (hn : is.length ≤ 70000) :
    Calls Try.prog 34 #[.pointer (some ⟨C, 0, none⟩), .pointer (some ⟨N, 0, none⟩)] w fun e w' => e = .returned .nilIface ∧ (∃ v', Comp w' C base v' (is ++ { op := 2, x := if lz then (is.length : Int) + 4 else (is.length : Int) + 1, y := if lz then (is.length : Int) + 1 else (is.length : Int) + 4 } :: bodyI S lo hi grp) loops) ∧ Kept w w' C ∧ Below B w w' := by
  have hem := emit_any { op := 2 } is C base B v loops w h hB hC hbase (by omega)
  have hrep : ∀ W, Kept w W C → RepAt W N K 0 1 lz := fun W hk => hN.kept hk ⟨_, _, h.blk⟩
  have hcap : ∀ W, Kept w W C → CapAt W K N' grp := fun W hk => hK.kept hk ⟨_, _, h.blk⟩
  have hch : ∀ W, Kept w W C → CharsAt W N' S := fun W hk => hN'.kept hk (chars_ne h hN')
  obtain ⟨hNw, M, hMw, n2, n3, n4, n5, m0⟩ := rep_cells hN
  obtain ⟨hKw, _, _, k0, _, _, _⟩ := cap_cells hK
  clear hN hK hN' h
  go_enter Try.func34, Try.ntmps34
  go_wp2_with fail
  refine hem.mono ?_
  clear hem n2 n3 n4 n5 m0 k0
  rintro e w1 ⟨rfl, ⟨v1, hc1⟩, hk1, hb1⟩
  have hnd := node_cap K N' S lo hi grp _ C base B v1 loops w1 (hcap w1 hk1) (hch w1 hk1) (fun W hW => hS W (hb1.trans hW)) hc1 hB hC (by have := hb1.size; omega) (by simp; omega)
  clear hc1 hcap hch hS
  go_wp2_with fail
  refine hnd.mono ?_
  clear hnd
  rintro e w2 ⟨rfl, ⟨v2, hc2⟩, hk2, hb2⟩
  have hk12 := hk1.trans hk2
  have hb12 := hb1.trans hb2
  obtain ⟨hNw2, M2, hMw2, n2, n3, n4, n5, m0⟩ := rep_cells (hrep w2 hk12)
  have hc2' : Comp w2 C base v2 (is ++ ({ op := 2 } : In) :: bodyI S lo hi grp) loops := by simpa using hc2
  obtain ⟨g, cap, rfl, hnow⟩ := now_of hc2' hk12 hb12 hB (by simp; omega)
  clear hc2'
  clear hc2 hk1 hk2 hb1 hb2 hk12 hb12 hrep
  have hl : (is ++ ({ op := 2 } : In) :: bodyI S lo hi grp).length = is.length + 4 := by simp [bodyI]
  rw [hl] at hnow
  obtain ⟨hCw, hgw, c0, c1, _⟩ := hnow.cells
  have w0 := fun c hc => hnow.at2 is.length c _ (get_mid is _ _) hc
  have y1 : w2.cell? ⟨g, is.length * 16 + 1, none⟩ = some (.int .i64 0) := (w0 1 (by omega)).1.trans rfl
  have y2 : w2.cell? ⟨g, is.length * 16 + 2, none⟩ = some (.int .i64 0) := (w0 2 (by omega)).1.trans rfl
  have z1 := (w0 1 (by omega)).2
  have z2 := (w0 2 (by omega)).2
  clear w0
  have hst : ∀ (W : World) (i0 : In) (p1 p2 : Int), i0.vals.set 1 (.int .i64 p1) = In.vals { op := 2, x := p1, y := i0.y } → Now w W C base B g (is.length + 4) cap (is ++ i0 :: bodyI S lo hi grp) loops → Now w ((W.setCell ⟨g, is.length * 16 + 1, none⟩ (.int .i64 p1)).setCell ⟨g, is.length * 16 + 2, none⟩ (.int .i64 p2)).drew C base B g (is.length + 4) cap (is ++ { op := 2, x := p1, y := p2 } :: bodyI S lo hi grp) loops := by
    intro W i0 p1 p2 hv hW
    have s1 := hW.store2 is.length 1 (.int .i64 p1) _ { op := 2, x := p1, y := i0.y } (get_mid is _ _) (by omega) hv
    rw [set_mid] at s1
    have s2 := s1.store2 is.length 2 (.int .i64 p2) _ { op := 2, x := p1, y := p2 } (get_mid is _ _) (by omega) rfl
    rw [set_mid] at s2
    exact s2.drewN 1
  have hn2 := hst w2 { op := 2 } ((is.length : Int) + 1) ((is.length : Int) + 4) rfl hnow
  have hn3 := fun W => hst W { op := 2, x := (is.length : Int) + 1, y := (is.length : Int) + 4 } ((is.length : Int) + 4) ((is.length : Int) + 1) rfl
  obtain ⟨hCw3, hgw3, c03, _, _⟩ := hn2.cells
  have w1' := fun c hc => hn2.at2 is.length c _ (get_mid is _ _) hc
  have u1 : ((w2.setCell ⟨g, is.length * 16 + 1, none⟩ (.int .i64 ((is.length : Int) + 1))).setCell ⟨g, is.length * 16 + 2, none⟩ (.int .i64 ((is.length : Int) + 4))).drew.cell? ⟨g, is.length * 16 + 1, none⟩ = some (.int .i64 ((is.length : Int) + 1)) := (w1' 1 (by omega)).1.trans rfl
  have u2 : ((w2.setCell ⟨g, is.length * 16 + 1, none⟩ (.int .i64 ((is.length : Int) + 1))).setCell ⟨g, is.length * 16 + 2, none⟩ (.int .i64 ((is.length : Int) + 4))).drew.cell? ⟨g, is.length * 16 + 2, none⟩ = some (.int .i64 ((is.length : Int) + 4)) := (w1' 2 (by omega)).1.trans rfl
  have t1 := (w1' 1 (by omega)).2
  have t2 := (w1' 2 (by omega)).2
  clear w1'
  have HN2 : Hid (Now w ((w2.setCell ⟨g, is.length * 16 + 1, none⟩ (.int .i64 ((is.length : Int) + 1))).setCell ⟨g, is.length * 16 + 2, none⟩ (.int .i64 ((is.length : Int) + 4))).drew C base B g (is.length + 4) cap (is ++ { op := 2, x := (is.length : Int) + 1, y := (is.length : Int) + 4 } :: bodyI S lo hi grp) loops) := hn2
  clear hst hnow hl hn2
  cases lz
  · clear hn3 u1 u2 t1 t2 c03 hCw3 hgw3
    generalize hLL : is.length = L at *
    have hL0 : (0 : Int) ≤ (L : Int) := Int.natCast_nonneg _
    have hL1 : (L : Int) ≤ 70000 := by omega
    have HL : Hid (is.length = L) := hLL
    clear hLL
    go_wp2_with fail
    go_region
    go_wp2_with fail
    go_ret
    rw [HL.out]
    exact ⟨rfl, ⟨_, HN2.out.comp⟩, HN2.out.kept, HN2.out.below⟩
  · have HN3 : Hid (∀ W, Now w W C base B g (is.length + 4) cap (is ++ { op := 2, x := (is.length : Int) + 1, y := (is.length : Int) + 4 } :: bodyI S lo hi grp) loops → Now w ((W.setCell ⟨g, is.length * 16 + 1, none⟩ (.int .i64 ((is.length : Int) + 4))).setCell ⟨g, is.length * 16 + 2, none⟩ (.int .i64 ((is.length : Int) + 1))).drew C base B g (is.length + 4) cap (is ++ { op := 2, x := (is.length : Int) + 4, y := (is.length : Int) + 1 } :: bodyI S lo hi grp) loops) := hn3
    clear hn3
    generalize hLL : is.length = L at *
    have hL0 : (0 : Int) ≤ (L : Int) := Int.natCast_nonneg _
    have hL1 : (L : Int) ≤ 70000 := by omega
    have HL : Hid (is.length = L) := hLL
    clear hLL
    have HU : Hid (((w2.setCell ⟨g, L * 16 + 1, none⟩ (.int .i64 ((L : Int) + 1))).setCell ⟨g, L * 16 + 2, none⟩ (.int .i64 ((L : Int) + 4))).drew.cell? ⟨g, L * 16 + 1, none⟩ = some (.int .i64 ((L : Int) + 1)) ∧ ((w2.setCell ⟨g, L * 16 + 1, none⟩ (.int .i64 ((L : Int) + 1))).setCell ⟨g, L * 16 + 2, none⟩ (.int .i64 ((L : Int) + 4))).drew.cell? ⟨g, L * 16 + 2, none⟩ = some (.int .i64 ((L : Int) + 4))) := ⟨u1, u2⟩
    have HT : Hid (((w2.setCell ⟨g, L * 16 + 1, none⟩ (.int .i64 ((L : Int) + 1))).setCell ⟨g, L * 16 + 2, none⟩ (.int .i64 ((L : Int) + 4))).drew.frozen? ⟨g, L * 16 + 1, none⟩ = false ∧ ((w2.setCell ⟨g, L * 16 + 1, none⟩ (.int .i64 ((L : Int) + 1))).setCell ⟨g, L * 16 + 2, none⟩ (.int .i64 ((L : Int) + 4))).drew.frozen? ⟨g, L * 16 + 2, none⟩ = false) := ⟨t1, t2⟩
    have HC3 : Hid (((w2.setCell ⟨g, L * 16 + 1, none⟩ (.int .i64 ((L : Int) + 1))).setCell ⟨g, L * 16 + 2, none⟩ (.int .i64 ((L : Int) + 4))).drew.cell? ⟨C, 0, none⟩ = some (.slice (some ⟨g, 0, none⟩) (L + 4) cap) ∧ C < ((w2.setCell ⟨g, L * 16 + 1, none⟩ (.int .i64 ((L : Int) + 1))).setCell ⟨g, L * 16 + 2, none⟩ (.int .i64 ((L : Int) + 4))).drew.heap.size ∧ g < ((w2.setCell ⟨g, L * 16 + 1, none⟩ (.int .i64 ((L : Int) + 1))).setCell ⟨g, L * 16 + 2, none⟩ (.int .i64 ((L : Int) + 4))).drew.heap.size) := ⟨c03, hCw3, hgw3⟩
    clear u1 u2 t1 t2 c03 hCw3 hgw3
    go_wp2_with fail
    go_region
    go_wp2_with fail
    generalize ((w2.setCell ⟨g, L * 16 + 1, none⟩ (.int .i64 ((L : Int) + 1))).setCell ⟨g, L * 16 + 2, none⟩ (.int .i64 ((L : Int) + 4))).drew = w3 at *
    obtain ⟨u1, u2⟩ := HU.out
    obtain ⟨t1, t2⟩ := HT.out
    obtain ⟨c03, hCw3, hgw3⟩ := HC3.out
    go_region
    go_wp2_with fail
    go_ret
    rw [HL.out]
    have hf := HN3.out w3 HN2.out
    exact ⟨rfl, ⟨_, hf.comp⟩, hf.kept, hf.below⟩
end Go.Proofs.Qxb6613789a.Rp
