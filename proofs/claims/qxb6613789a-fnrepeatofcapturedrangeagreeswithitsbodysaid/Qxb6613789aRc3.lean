import Derived.Test.Qxb6613789aRc2
namespace Go.Proofs.Qxb6613789a.Rp
open Go.RowKit
attribute [local go_sem ↓] Go.wp_at_zero Go.wp_at_succ

theorem own_below {w w' : World} {base : Nat} {e : TypeId} {size : Nat} {v : Value} {n : Nat} {xs : List Value} (h : w.ownsRow base e size v n xs) (hb : Below w.heap.size w w') : w'.ownsRow base e size v n xs := by
  obtain ⟨h1, h2⟩ := h
  refine ⟨h1, ?_⟩
  rcases h2 with h2 | ⟨g, cap, cur, hv, hg, hh, r⟩
  · exact Or.inl h2
  · exact Or.inr ⟨g, cap, cur, hv, hg, by rw [hb.block g (block_lt hh)]; exact hh, r⟩
theorem Comp.below {w w' : World} {C base : Nat} {v : Value} {is : List In} {L : Int} (h : Comp w C base v is L) (hb : Below w.heap.size w w') : Comp w' C base v is L :=
  ⟨(hb.block C (block_lt h.blk)).trans h.blk, own_below h.own hb⟩
theorem Kept.below {w w' : World} (C : Nat) (hb : Below w.heap.size w w') : Kept w w' C := fun k _ _ _ _ h => (hb.block k (block_lt h)).trans h
/-- The count of loops, set. -/
theorem Comp.setLoops {w : World} {C base : Nat} {v : Value} {is : List In} {L : Int} (h : Comp w C base v is L) (L' : Int) : Comp (w.setCell ⟨C, 1, none⟩ (.int .i64 L')) C base v is L' :=
  ⟨heap_setCell_same w C 1 _ _ _ h.blk, own_setCell_other h.own (fun e => by
    obtain ⟨cur, hc⟩ := own_tag h.own e
    rw [h.blk] at hc
    simp at hc) _⟩
theorem Kept.setC {w w1 : World} {C : Nat} (h : Kept w w1 C) (o : Nat) (u : Value) : Kept w (w1.setCell ⟨C, o, none⟩ u) C := fun k cs t h1 h2 h3 => (Below.heap_setCell _ _ _ _ h1).trans (h k cs t h1 h2 h3)


theorem Now.drew {w w' : World} {C base B g n cap : Nat} {is : List In} {L : Int} (h : Now w w' C base B g n cap is L) : Now w w'.drew C base B g n cap is L := h.drewN 1
theorem get_top (is : List In) (a b : In) (tl : List In) : (is ++ a :: b :: tl)[is.length + 1]? = some b := by
  rw [List.getElem?_append_right (by omega), show is.length + 1 - is.length = 1 by omega]; rfl
theorem set_top (is : List In) (a b b' : In) (tl : List In) : (is ++ a :: b :: tl).set (is.length + 1) b' = is ++ a :: b' :: tl := by
  rw [List.set_append_right _ _ (by omega), show is.length + 1 - is.length = 1 by omega]; rfl
theorem get_end (is : List In) (S : Nat) (lo hi grp : Int) (a b c d : In) : (is ++ a :: b :: c :: (bodyI S lo hi grp ++ [d]))[is.length + 6]? = some d := by
  rw [List.getElem?_append_right (by omega), show is.length + 6 - is.length = 6 by omega]; rfl
theorem set_end (is : List In) (S : Nat) (lo hi grp : Int) (a b c d d' : In) : (is ++ a :: b :: c :: (bodyI S lo hi grp ++ [d])).set (is.length + 6) d' = is ++ a :: b :: c :: (bodyI S lo hi grp ++ [d']) := by
  rw [List.set_append_right _ _ (by omega), show is.length + 6 - is.length = 6 by omega]; rfl

set_option maxRecDepth 100000 in
set_option maxHeartbeats 8000000 in
theorem repcap_loop1 (N K N' S : Nat) (lo hi grp mx : Int) (lz : Bool) (is : List In) (C base B : Nat) (v : Value) (loops : Int) (w : World) (hN : RepAt w N K 1 mx lz) (hK : CapAt w K N' grp) (hN' : CharsAt w N' S) (hS : ∀ W, Below B w W → OneSet W S lo hi) (h : Comp w C base v is loops) (hB : B ≤ base) (hC : B ≤ C) (hbase : base ≤ w.heap.size) (hn : is.length ≤ 70000)
    (hx : ¬ mx = 0) (hm : ¬ mx = 1) :
    Calls Try.prog 34 #[.pointer (some ⟨C, 0, none⟩), .pointer (some ⟨N, 0, none⟩)] w fun e w' => e = .returned .nilIface ∧ (∃ v', Comp w' C base v' (is ++ ({ op := 11, n := loops } : In) :: { op := 12, n := loops, min := 1, max := mx, lazy := lz, x := (is.length : Int) + 7 } :: { op := 13, n := loops, min := 1, max := mx } :: (bodyI S lo hi grp ++ [{ op := 14, n := loops, y := (is.length : Int) + 1, min := 1, x := (is.length : Int) + 7 }])) (wrap64 (loops + 1))) ∧ Kept w w' C ∧ Below B w w' := by
  have hrep : ∀ W, Kept w W C → RepAt W N K 1 mx lz := fun W hk => hN.kept hk ⟨_, _, h.blk⟩
  have hcap : ∀ W, Kept w W C → CapAt W K N' grp := fun W hk => hK.kept hk ⟨_, _, h.blk⟩
  have hch : ∀ W, Kept w W C → CharsAt W N' S := fun W hk => hN'.kept hk (chars_ne h hN')
  have hfc := first_cap K N' S grp w hK hN'
  obtain ⟨hNw, M, hMw, n2, n3, n4, n5, m0⟩ := rep_cells hN
  obtain ⟨hKw, _, _, k0, _, _, _⟩ := cap_cells hK
  clear hN hK hN'
  go_enter Try.func34, Try.ntmps34
  go_wp2_with fail
  refine hfc.mono ?_
  clear hfc n2 n3 n4 n5 m0 k0
  rintro e w1 ⟨⟨S1, rfl⟩, hb1⟩
  have hc1 := h.below hb1
  have hk1 := Kept.below C hb1
  have hB1 : Below B w w1 := hb1.mono (by omega)
  have c1 : w1.cell? ⟨C, 1, none⟩ = some (.int .i64 loops) := by rw [cell_of_row w1 C 1 _ _ (0, 0) hc1.blk]; rfl
  have f1 : w1.frozen? ⟨C, 1, none⟩ = false := frozen_of_row w1 C 1 _ _ hc1.blk
  have hCw1 := block_lt hc1.blk
  have hc2 := hc1.setLoops (wrap64 (loops + 1))
  have hk2 := hk1.setC 1 (.int .i64 (wrap64 (loops + 1)))
  have hB2 := hB1.setCell (p := ⟨C, 1, none⟩) hC (.int .i64 (wrap64 (loops + 1)))
  have hem := emit_any { op := 11, n := loops } is C base B v (wrap64 (loops + 1)) _ hc2 hB hC (by have := hB2.size; omega) (by omega)
  clear h hc1 hc2
  go_wp2_with fail
  refine hem.mono ?_
  clear hem c1 f1
  rintro e w3 ⟨rfl, ⟨v3, hc3⟩, hk3, hb3⟩
  have hk03 := hk2.trans hk3
  have hb03 := hB2.trans hb3
  clear hk2 hk3 hB2 hb3 hk1 hB1 hb1
  obtain ⟨hNw3, M3, hMw3, n2, n3, n4, n5, m0⟩ := rep_cells (hrep w3 hk03)
  have hem := emit_any { op := 12, n := loops, min := 1, max := mx, lazy := lz } _ C base B v3 _ w3.drew ⟨hc3.blk, hc3.own⟩ hB hC (by have := hb03.size; show base ≤ w3.heap.size; omega) (by simp; omega)
  go_wp2_with fail
  go_region_held3 (fun w' => w'.cell? ⟨N, 3, none⟩ = some (.int .i64 1) ∧ w'.cell? ⟨N, 4, none⟩ = some (.int .i64 mx) ∧ w'.cell? ⟨N, 5, none⟩ = some (.bool lz)) (first | go_keep | exact ⟨q3, q4, q5⟩) (first | (go_at_call 41; refine hem.mono ?_; rintro e w4 ⟨rfl, ⟨v4, hc4⟩, hk4, hb4⟩; obtain ⟨hNw4, M4, hMw4, q2, q3, q4, q5, r0⟩ := rep_cells (hrep w4 (hk03.trans hk4))))
  have hk04 := hk03.trans hk4
  have hb04 := hb03.drew.trans hb4
  clear hem hc3 hk4 hb4 hk03 hb03 n2 n3 n4 n5 m0
  have hem := emit_any { op := 13, n := loops, min := 1, max := mx } _ C base B v4 _ w4.drew ⟨hc4.blk, hc4.own⟩ hB hC (by have := hb04.size; show base ≤ w4.heap.size; omega) (by simp; omega)
  go_wp2_with fail
  go_region_held3 (fun w' => w'.cell? ⟨N, 3, none⟩ = some (.int .i64 1) ∧ w'.cell? ⟨N, 4, none⟩ = some (.int .i64 mx)) (first | go_keep | exact ⟨s3, s4⟩) (first | (go_at_call 41; refine hem.mono ?_; rintro e w5 ⟨rfl, ⟨v5, hc5⟩, hk5, hb5⟩; obtain ⟨hNw5, M5, hMw5, s2, s3, s4, s5, t0⟩ := rep_cells (hrep w5 (hk04.trans hk5))))
  have hk05 := hk04.trans hk5
  have hb05 := hb04.drew.trans hb5
  clear hem hc4 hk5 hb5 hk04 hb04 q2 q3 q4 q5 r0
  have hnd := node_cap K N' S lo hi grp _ C base B v5 _ w5 (hcap w5 hk05) (hch w5 hk05) (fun W hW => hS W (hb05.trans hW)) hc5 hB hC (by have := hb05.size; omega) (by simp; omega)
  clear hc5 hcap hch hS s2 s3 s4 s5 t0
  go_wp2_with fail
  refine hnd.mono ?_
  clear hnd
  rintro e w6 ⟨rfl, ⟨v6, hc6⟩, hk6, hb6⟩
  have hk06 := hk05.trans hk6
  have hb06 := hb05.trans hb6
  clear hk05 hb05 hk6 hb6
  obtain ⟨hNw6, M6, hMw6, n2, n3, n4, n5, m0⟩ := rep_cells (hrep w6 hk06)
  have hl6 : ∀ a b c : In, (is ++ [a] ++ [b] ++ [c] ++ bodyI S lo hi grp).length = is.length + 6 := fun a b c => by simp [bodyI]
  have hem := emit_any { op := 14, n := loops, y := (is.length : Int) + 1, min := 1 } _ C base B v6 _ w6 hc6 hB hC (by have := hb06.size; omega) (by rw [hl6]; omega)
  rw [hl6] at hem
  clear hc6 hrep
  go_wp2_with fail
  refine hem.mono ?_
  clear hem n2 n3 n4 n5 m0
  rintro e w7 ⟨rfl, ⟨v7, hc7⟩, hk7, hb7⟩
  have hk07 := hk06.trans hk7
  have hb07 := hb06.trans hb7
  have hc8 : Comp w7 C base v7 (is ++ ({ op := 11, n := loops } : In) :: { op := 12, n := loops, min := 1, max := mx, lazy := lz } :: { op := 13, n := loops, min := 1, max := mx } :: (bodyI S lo hi grp ++ [{ op := 14, n := loops, y := (is.length : Int) + 1, min := 1 }])) (wrap64 (loops + 1)) := by simpa using hc7
  obtain ⟨g, cap, rfl, hnow⟩ := now_of hc8 hk07 hb07 hB (by simp; omega)
  clear hc7 hc8 hk06 hb06 hk7 hb7 hk07 hb07 hl6
  have hl : ∀ a b c d : In, (is ++ a :: b :: c :: (bodyI S lo hi grp ++ [d])).length = is.length + 7 := fun a b c d => by simp [bodyI]
  rw [hl] at hnow
  obtain ⟨hCw, hgw, c0, _, _⟩ := hnow.cells
  have w0 := fun c hc => hnow.at2 (is.length + 1) c _ (get_top is _ _ _) hc
  have y1 : w7.cell? ⟨g, (is.length + 1) * 16 + 1, none⟩ = some (.int .i64 0) := (w0 1 (by omega)).1.trans rfl
  have z1 := (w0 1 (by omega)).2
  clear w0
  have s1 := (hnow.store2 (is.length + 1) 1 (.int .i64 ((is.length : Int) + 7)) _ { op := 12, n := loops, min := 1, max := mx, lazy := lz, x := (is.length : Int) + 7 } (get_top is _ _ _) (by omega) rfl).drew
  rw [set_top] at s1
  have w0 := fun c hc => s1.at2 (is.length + 6) c _ (get_end is S lo hi grp _ _ _ _) hc
  obtain ⟨hCw2, hgw2, c02, _, _⟩ := s1.cells
  have y2 : (w7.setCell ⟨g, (is.length + 1) * 16 + 1, none⟩ (.int .i64 ((is.length : Int) + 7))).drew.cell? ⟨g, (is.length + 6) * 16 + 1, none⟩ = some (.int .i64 0) := (w0 1 (by omega)).1.trans rfl
  have z2 := (w0 1 (by omega)).2
  clear w0
  have s2 := (s1.store2 (is.length + 6) 1 (.int .i64 ((is.length : Int) + 7)) _ { op := 14, n := loops, y := (is.length : Int) + 1, min := 1, x := (is.length : Int) + 7 } (get_end is S lo hi grp _ _ _ _) (by omega) rfl).drew
  rw [set_end] at s2
  have HY : Hid ((w7.setCell ⟨g, (is.length + 1) * 16 + 1, none⟩ (.int .i64 ((is.length : Int) + 7))).drew.cell? ⟨g, (is.length + 6) * 16 + 1, none⟩ = some (.int .i64 0) ∧ (w7.setCell ⟨g, (is.length + 1) * 16 + 1, none⟩ (.int .i64 ((is.length : Int) + 7))).drew.frozen? ⟨g, (is.length + 6) * 16 + 1, none⟩ = false ∧ (w7.setCell ⟨g, (is.length + 1) * 16 + 1, none⟩ (.int .i64 ((is.length : Int) + 7))).drew.cell? ⟨C, 0, none⟩ = some (.slice (some ⟨g, 0, none⟩) (is.length + 7) cap) ∧ C < (w7.setCell ⟨g, (is.length + 1) * 16 + 1, none⟩ (.int .i64 ((is.length : Int) + 7))).drew.heap.size ∧ g < (w7.setCell ⟨g, (is.length + 1) * 16 + 1, none⟩ (.int .i64 ((is.length : Int) + 7))).drew.heap.size) := ⟨y2, z2, c02, hCw2, hgw2⟩
  have HS2 : Hid (Now w ((w7.setCell ⟨g, (is.length + 1) * 16 + 1, none⟩ (.int .i64 ((is.length : Int) + 7))).drew.setCell ⟨g, (is.length + 6) * 16 + 1, none⟩ (.int .i64 ((is.length : Int) + 7))).drew C base B g (is.length + 7) cap (is ++ ({ op := 11, n := loops } : In) :: { op := 12, n := loops, min := 1, max := mx, lazy := lz, x := (is.length : Int) + 7 } :: { op := 13, n := loops, min := 1, max := mx } :: (bodyI S lo hi grp ++ [{ op := 14, n := loops, y := (is.length : Int) + 1, min := 1, x := (is.length : Int) + 7 }])) (wrap64 (loops + 1))) := s2
  clear s1 s2 y2 z2 c02 hCw2 hgw2 hnow hl
  generalize hLL : is.length = L at *
  have hL0 : (0 : Int) ≤ (L : Int) := Int.natCast_nonneg _
  have hL1 : (L : Int) ≤ 70000 := by omega
  have HL : Hid (is.length = L) := hLL
  clear hLL
  go_wp2_with fail
  go_region
  go_wp2_with fail
  generalize (w7.setCell ⟨g, (L + 1) * 16 + 1, none⟩ (.int .i64 ((L : Int) + 7))).drew = w8 at *
  obtain ⟨y2, z2, c02, hCw2, hgw2⟩ := HY.out
  go_region
  go_wp2_with fail
  go_ret
  rw [HL.out]
  exact ⟨rfl, ⟨_, HS2.out.comp⟩, HS2.out.kept, HS2.out.below⟩
end Go.Proofs.Qxb6613789a.Rp
