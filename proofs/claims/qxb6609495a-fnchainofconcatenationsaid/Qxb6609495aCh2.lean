import Derived.Test.Qxb6609495aCh1
namespace Go.Proofs.Qxb6609495a.Ch
open Go.RowKit
attribute [local go_sem ↓] Go.wp_at_zero Go.wp_at_succ

theorem info42 : (Try.prog.info? 42).map (fun i => (i.zero, i.size, i.bytes)) = some (some (.agg #[.string ⟨#[]⟩, .pointer none, .nilIface, .int .u64 0]), 4, 48) := by kernel_rfl
theorem info37 : (Try.prog.info? 37).map (fun i => (i.zero, i.size, i.bytes)) = some (some (.pointer none), 1, 8) := by kernel_rfl

set_option maxHeartbeats 400000 in
theorem errNew_any (t : ByteArray) (w : World) :
    Calls Try.prog 11 #[.string t] w fun e w' => e = .returned (.iface 48 (.pointer (some ⟨w.heap.size, 0, none⟩))) ∧ w.alloc (.cells #[.string t] 50) = w' := by
  go_enter Try.func11, Try.ntmps11
  go_wp2_with fail
  go_ret
  exact ⟨rfl, rfl⟩

set_option maxHeartbeats 400000 in
theorem badEntry_any (s : ByteArray) (w : World) :
    Calls Try.prog 10 #[.string s] w fun e w' => ∃ x o1 o2, e = .returned (.agg #[.string s, .pointer none, .iface 48 (.pointer (some ⟨x, 0, none⟩)), .int .u64 0]) ∧ (w.alloc o1).alloc o2 = w' := by
  go_enter Try.func10, Try.ntmps10
  go_wp2_with fail
  refine (errNew_any _ _).mono ?_
  rintro e w1 ⟨rfl, rfl⟩
  go_wp2_with fail
  exact bodyPost_ret (v := .agg #[.string s, .pointer none, .iface 48 (.pointer (some ⟨w.heap.size + 1, 0, none⟩)), .int .u64 0]) (by simp [results, Try.results10, go_sem]) rfl ⟨_, _, _, rfl, rfl⟩

/-- What the two rows hold, at the first t places. -/
def Good (s : Nat → ByteArray) (bad : Nat → Bool) (p : Nat → Nat) (E R : Array Value) (t : Nat) : Prop :=
  ∀ i, i < t → ∃ r ev, E[i * 4]? = some (.string (s i)) ∧ E[i * 4 + 1]? = some (.pointer r) ∧ E[i * 4 + 2]? = some ev ∧ E[i * 4 + 3]? = some (.int .u64 0) ∧
    (bad i = false → r = some ⟨p i, 0, none⟩ ∧ ev = .nilIface ∧ R[i]? = some (.pointer (some ⟨p i, 0, none⟩))) ∧ (bad i = true → ∃ x, ev = .iface 48 (.pointer (some ⟨x, 0, none⟩)))
/-- Four cells, set. -/
def set4 (E : Array Value) (t : Nat) (a b c d : Value) : Array Value := (((E.setIfInBounds (t * 4) a).setIfInBounds (t * 4 + 1) b).setIfInBounds (t * 4 + 2) c).setIfInBounds (t * 4 + 3) d
theorem set4_size (E : Array Value) (t : Nat) (a b c d : Value) : (set4 E t a b c d).size = E.size := by simp [set4]
theorem set4_other (E : Array Value) (t i : Nat) (a b c d : Value) (h : i < t * 4 ∨ t * 4 + 4 ≤ i) : (set4 E t a b c d)[i]? = E[i]? := by
  unfold set4
  rw [Array.getElem?_setIfInBounds_ne (by omega), Array.getElem?_setIfInBounds_ne (by omega), Array.getElem?_setIfInBounds_ne (by omega), Array.getElem?_setIfInBounds_ne (by omega)]
theorem set4_at (E : Array Value) (t : Nat) (a b c d : Value) (h : t * 4 + 4 ≤ E.size) : (set4 E t a b c d)[t * 4]? = some a ∧ (set4 E t a b c d)[t * 4 + 1]? = some b ∧ (set4 E t a b c d)[t * 4 + 2]? = some c ∧ (set4 E t a b c d)[t * 4 + 3]? = some d := by
  unfold set4
  refine ⟨?_, ?_, ?_, ?_⟩
  · rw [Array.getElem?_setIfInBounds_ne (by omega), Array.getElem?_setIfInBounds_ne (by omega), Array.getElem?_setIfInBounds_ne (by omega), Array.getElem?_setIfInBounds_self_of_lt (by first | omega | (simp; omega))]
  · rw [Array.getElem?_setIfInBounds_ne (by omega), Array.getElem?_setIfInBounds_ne (by omega), Array.getElem?_setIfInBounds_self_of_lt (by first | omega | (simp; omega))]
  · rw [Array.getElem?_setIfInBounds_ne (by omega), Array.getElem?_setIfInBounds_self_of_lt (by first | omega | (simp; omega))]
  · rw [Array.getElem?_setIfInBounds_self_of_lt (by first | omega | (simp; omega))]
theorem good_bad {s : Nat → ByteArray} {bad : Nat → Bool} {p : Nat → Nat} {E R : Array Value} {t x : Nat} (h : Good s bad p E R t) (ht : t * 4 + 4 ≤ E.size) (hb : bad t = true) :
    Good s bad p (set4 E t (.string (s t)) (.pointer none) (.iface 48 (.pointer (some ⟨x, 0, none⟩))) (.int .u64 0)) R (t + 1) := by
  intro i hi
  by_cases e : i = t
  · subst e
    obtain ⟨a, b, c, d⟩ := set4_at E i (.string (s i)) (.pointer none) (.iface 48 (.pointer (some ⟨x, 0, none⟩))) (.int .u64 0) ht
    exact ⟨_, _, a, b, c, d, fun hh => (by rw [hb] at hh; cases hh), fun _ => ⟨x, rfl⟩⟩
  · obtain ⟨r, ev, a, b, c, d, g1, g2⟩ := h i (by omega)
    exact ⟨r, ev, (set4_other _ _ _ _ _ _ _ (by omega)).trans a, (set4_other _ _ _ _ _ _ _ (by omega)).trans b, (set4_other _ _ _ _ _ _ _ (by omega)).trans c, (set4_other _ _ _ _ _ _ _ (by omega)).trans d, g1, g2⟩
theorem good_good {s : Nat → ByteArray} {bad : Nat → Bool} {p : Nat → Nat} {E R : Array Value} {t P : Nat} (h : Good s bad p E R t) (ht : t * 4 + 4 ≤ E.size) (hR : t < R.size) (hb : bad t = false) :
    Good s bad (fun i => if i = t then P else p i) (set4 E t (.string (s t)) (.pointer (some ⟨P, 0, none⟩)) .nilIface (.int .u64 0)) (R.setIfInBounds t (.pointer (some ⟨P, 0, none⟩))) (t + 1) := by
  intro i hi
  by_cases e : i = t
  · subst e
    obtain ⟨a, b, c, d⟩ := set4_at E i (.string (s i)) (.pointer (some ⟨P, 0, none⟩)) .nilIface (.int .u64 0) ht
    refine ⟨_, _, a, b, c, d, fun _ => ⟨by simp, rfl, ?_⟩, fun hh => (by rw [hb] at hh; cases hh)⟩
    rw [Array.getElem?_setIfInBounds_self_of_lt hR]
    simp
  · obtain ⟨r, ev, a, b, c, d, g1, g2⟩ := h i (by omega)
    refine ⟨r, ev, (set4_other _ _ _ _ _ _ _ (by omega)).trans a, (set4_other _ _ _ _ _ _ _ (by omega)).trans b, (set4_other _ _ _ _ _ _ _ (by omega)).trans c, (set4_other _ _ _ _ _ _ _ (by omega)).trans d, fun hh => ?_, g2⟩
    obtain ⟨k1, k2, k3⟩ := g1 hh
    refine ⟨by simp [e, k1], k2, ?_⟩
    rw [Array.getElem?_setIfInBounds_ne (by omega)]
    simpa [e] using k3
theorem block_lt {w : World} {k : Nat} {o : Obj} (h : w.heap[k]? = some o) : k < w.heap.size := by
  rcases Nat.lt_or_ge k w.heap.size with hlt | hge
  · exact hlt
  · rw [Array.getElem?_eq_none hge] at h; cases h
theorem row_cell {w : World} {g : Nat} {cs : Array Value} {t : TypeId} (h : w.heap[g]? = some (.cells cs t)) (j : Nat) (hj : j < cs.size) : (∃ v, w.cell? ⟨g, j, none⟩ = some v) ∧ w.frozen? ⟨g, j, none⟩ = false := by
  refine ⟨⟨cs[j], ?_⟩, frozen_of_row w g j cs t h⟩
  rw [cell_of_row w g j cs t (0, 0) h]
  simp [hj]
theorem own_block {w : World} {base : Nat} {e : TypeId} {size g n cap : Nat} {xs : List Value} (h : w.ownsRow base e size (.slice (some ⟨g, 0, none⟩) n cap) n xs) : ∃ cur, w.heap[g]? = some (.cells cur e) ∧ cur.size = cap * size := by
  rcases h.2 with ⟨h', _⟩ | ⟨g', cap', cur, h', _, hg, _, _, hcs, _⟩
  · simp at h'
  · simp only [Value.slice.injEq, Option.some.injEq, Addr.mk.injEq, and_true, true_and] at h'
    obtain ⟨rfl, rfl⟩ := h'
    exact ⟨cur, hg, hcs⟩

/-- The world with an entry's four cells set. -/
def put4 (W : World) (g t : Nat) (a b c d : Value) : World := (((W.setCell ⟨g, t * 4, none⟩ a).setCell ⟨g, t * 4 + 1, none⟩ b).setCell ⟨g, t * 4 + 2, none⟩ c).setCell ⟨g, t * 4 + 3, none⟩ d
theorem put4_heap {W : World} {g : Nat} {E : Array Value} (h : W.heap[g]? = some (.cells E 42)) (t : Nat) (a b c d : Value) : (put4 W g t a b c d).heap[g]? = some (.cells (set4 E t a b c d) 42) :=
  heap_setCell_same _ g _ _ _ _ (heap_setCell_same _ g _ _ _ _ (heap_setCell_same _ g _ _ _ _ (heap_setCell_same W g _ _ _ _ h)))
theorem put4_far {W : World} {g k : Nat} (h : k ≠ g) (t : Nat) (a b c d : Value) : (put4 W g t a b c d).heap[k]? = W.heap[k]? := by
  unfold put4
  rw [Below.heap_setCell _ _ _ _ h, Below.heap_setCell _ _ _ _ h, Below.heap_setCell _ _ _ _ h, Below.heap_setCell _ _ _ _ h]
theorem put4_below {W a0 : World} {B g : Nat} (h : Below B a0 W) (hg : B ≤ g) (t : Nat) (a b c d : Value) : Below B a0 (put4 W g t a b c d) := (((h.setCell (p := ⟨g, _, none⟩) hg _).setCell (p := ⟨g, _, none⟩) hg _).setCell (p := ⟨g, _, none⟩) hg _).setCell (p := ⟨g, _, none⟩) hg _
theorem alloc_heap {W : World} {k : Nat} {o : Obj} (h : W.heap[k]? = some o) (o1 : Obj) : (W.alloc o1).heap[k]? = some o := (Below.heap_alloc _ _ _ (block_lt h)).trans h

set_option maxRecDepth 100000 in
set_option maxHeartbeats 2000000 in
theorem build_any (wa : Option Addr) (wn wc : Nat) (a : Option Addr) (n cp : Nat) (s : Nat → ByteArray) (c : Nat → Int) (bad : Nat → Bool) (w : World) (h : EntsAt w a n s c bad) (hn : n ≤ 70000) :
    Calls Try.prog 7 #[.slice wa wn wc, .slice a n cp] w fun e w' => ∃ p E R Rb, e = .returned (.tuple #[.slice (some ⟨w.heap.size, 0, none⟩) n n, .slice (some ⟨Rb, 0, none⟩) n n]) ∧
      w'.heap[w.heap.size]? = some (.cells E 42) ∧ E.size = n * 4 ∧ w'.heap[Rb]? = some (.cells R 37) ∧ R.size = n ∧ Good s bad p E R n ∧ Below w.heap.size w w' := by
  obtain ⟨i0, hi0, hz0, hz1, hz2⟩ := info_parts info42
  obtain ⟨j0, ji0, jz0, jz1, jz2⟩ := info_parts info37
  have HD : Hid (EntsAt w a n s c bad) := h
  clear h
  go_enter Try.func7, Try.ntmps7
  go_wp2_with (first | (at_make; refine wpList_make_full _ rfl _ _ 26 rfl w.heap.size 42 i0 _ 4 Try.underlying26 hi0 hz0 hz1 .i64 .i64 _ _ n rfl rfl (by omega) (by omega) (by rw [hz2]; omega) (by unfold maxLen; omega) (Nat.le_refl _) ?_; intro w1 hown1 hgrow1) | (at_make; refine wpList_make_full _ rfl _ _ 27 rfl w1.heap.size 37 j0 _ 1 Try.underlying27 ji0 jz0 jz1 .i64 .i64 _ _ n rfl rfl (by omega) (by omega) (by rw [jz2]; omega) (by unfold maxLen; omega) (Nat.le_refl _) ?_; intro w2 hown2 hgrow2))
  have hER : w.heap.size < w1.heap.size := (hown1.lt _ rfl).2
  have hb1 : Below w.heap.size w w1 := (Below.refl _ _).grown hgrow1 (Nat.le_refl _) (fun k h => by cases h)
  have hb2 : Below w1.heap.size w1 w2 := (Below.refl _ _).grown hgrow2 (Nat.le_refl _) (fun k h => by cases h)
  obtain ⟨E0, hE0, hEs⟩ := own_block hown1
  obtain ⟨R0, hR0, hRs⟩ := own_block hown2
  have hE1 : w2.heap[w.heap.size]? = some (.cells E0 42) := (hb2.block _ hER).trans hE0
  have hw2 : Below w.heap.size w w2 := hb1.trans (hb2.mono hb1.size)
  clear hown1 hown2 hgrow1 hgrow2 hE0 hb1 hb2
  generalize w1.heap.size = Rb at *
  rw [Nat.mul_one] at hRs
  go_loopw [8] (fun i wr => ∃ (t : Nat) (p : Nat → Nat) (E R : Array Value), t ≤ n ∧ i = .int .i64 t ∧ Hid (wr.heap[w.heap.size]? = some (.cells E 42)) ∧ E.size = n * 4 ∧ Hid (wr.heap[Rb]? = some (.cells R 37)) ∧ R.size = n ∧ Hid (Good s bad p E R t) ∧ Below w.heap.size w wr) (fun i _ => n - (intOf i).toNat)
  case atStart => exact ⟨0, fun _ => 0, E0, R0, Nat.zero_le _, rfl, hE1, hEs, hR0, hRs, fun i hi => by omega, hw2⟩
  case round =>
    obtain ⟨t, p, E, R, ht, rfl, hE, hEsz, hR, hRsz, hg, hbel⟩ := hrel
    by_cases hlt : t < n
    · obtain ⟨b, o, rfl, hc⟩ : ∃ b o, a = some ⟨b, o, none⟩ ∧ ∀ i, i < n → w.cell? ⟨b, o + i * 3, none⟩ = some (.string (s i)) ∧ w.cell? ⟨b, o + i * 3 + 1, none⟩ = some (.int .u64 (c i)) ∧ w.cell? ⟨b, o + i * 3 + 2, none⟩ = some (.bool (bad i)) := by
        rcases HD.out with h | h
        · omega
        · exact h
      obtain ⟨z1, z2, z3⟩ := hc t hlt
      have y1 := (hbel.cell (cell_lt z1)).trans z1
      have y2 := (hbel.cell (cell_lt z2)).trans z2
      have y3 := (hbel.cell (cell_lt z3)).trans z3
      have hbw := cell_lt y1
      have hbo : b < w.heap.size := cell_lt z1
      clear hc z1 z2 z3
      have ht1 : (t : Int) < n := by omega
      have hsz := hbel.size
      have hEw := block_lt hE.out
      have hRw := block_lt hR.out
      obtain ⟨⟨e0, c0⟩, f0⟩ := row_cell hE.out (t * 4) (by omega)
      obtain ⟨⟨e1, c1⟩, f1⟩ := row_cell hE.out (t * 4 + 1) (by omega)
      obtain ⟨⟨e2, c2⟩, f2⟩ := row_cell hE.out (t * 4 + 2) (by omega)
      obtain ⟨⟨e3, c3⟩, f3⟩ := row_cell hE.out (t * 4 + 3) (by omega)
      obtain ⟨⟨r0, d0⟩, g0⟩ := row_cell hR.out t (by omega)
      cases hbad : bad t with
      | true =>
        rw [hbad] at y3
        have HG : Hid (∀ x, Good s bad p (set4 E t (.string (s t)) (.pointer none) (.iface 48 (.pointer (some ⟨x, 0, none⟩))) (.int .u64 0)) R (t + 1)) := fun x => good_bad hg.out (by omega) hbad
        generalize s t = st at *
        go_wp2_with fail
        refine (badEntry_any st wr).mono ?_
        rintro e w' ⟨x, o1, o2, rfl, rfl⟩
        go_wp2_with fail
        have k1 := put4_heap hE.out t (.string st) (.pointer none) (.iface 48 (.pointer (some ⟨x, 0, none⟩))) (.int .u64 0)
        have k2 := (put4_far (W := wr) (g := w.heap.size) (k := Rb) (by omega) t (.string st) (.pointer none) (.iface 48 (.pointer (some ⟨x, 0, none⟩))) (.int .u64 0)).trans hR.out
        have k3 := put4_below hbel (Nat.le_refl _) t (.string st) (.pointer none) (.iface 48 (.pointer (some ⟨x, 0, none⟩))) (.int .u64 0)
        exact ⟨⟨t + 1, p, _, R, by omega, by go_num, alloc_heap (alloc_heap k1 o1) o2, by rw [set4_size]; exact hEsz, alloc_heap (alloc_heap k2 o1) o2, hRsz, HG.out x, (k3.alloc k3.size o1).alloc (by have := k3.size; simp; omega) o2⟩, by simp [intOf]; omega⟩
      | false =>
        rw [hbad] at y3
        have HG : Hid (∀ P, Good s bad (fun i => if i = t then P else p i) (set4 E t (.string (s t)) (.pointer (some ⟨P, 0, none⟩)) .nilIface (.int .u64 0)) (R.setIfInBounds t (.pointer (some ⟨P, 0, none⟩))) (t + 1)) := fun P => good_good hg.out (by omega) (by omega) hbad
        generalize s t = st at *
        generalize c t = ct at *
        go_wp2_with fail
        have k0 : (wr.setCell ⟨Rb, t, none⟩ (.pointer (some ⟨wr.heap.size, 0, none⟩))).heap[w.heap.size]? = some (.cells E 42) := (Below.heap_setCell _ _ _ _ (show w.heap.size ≠ Rb by omega)).trans hE.out
        have k0' := heap_setCell_same wr Rb t _ _ (.pointer (some ⟨wr.heap.size, 0, none⟩)) hR.out
        have k1 := put4_heap k0 t (.string st) (.pointer (some ⟨wr.heap.size, 0, none⟩)) .nilIface (.int .u64 0)
        have k2 := (put4_far (g := w.heap.size) (k := Rb) (by omega) t (.string st) (.pointer (some ⟨wr.heap.size, 0, none⟩)) .nilIface (.int .u64 0)).trans k0'
        have k3 := put4_below (hbel.setCell (p := ⟨Rb, t, none⟩) (by show w.heap.size ≤ Rb; omega) (.pointer (some ⟨wr.heap.size, 0, none⟩))) (Nat.le_refl _) t (.string st) (.pointer (some ⟨wr.heap.size, 0, none⟩)) .nilIface (.int .u64 0)
        exact ⟨⟨t + 1, _, _, _, by omega, by go_num, alloc_heap k1 _, by rw [set4_size]; exact hEsz, alloc_heap k2 _, by simpa using hRsz, HG.out wr.heap.size, k3.alloc k3.size _⟩, by simp [intOf]; omega⟩
    · obtain rfl : t = n := by omega
      go_wp2_with fail
      exact bodyPost_ret (v := .tuple #[.slice (some ⟨w.heap.size, 0, none⟩) t t, .slice (some ⟨Rb, 0, none⟩) t t]) (by simp [results, Try.results7, go_sem]) rfl ⟨p, E, R, Rb, rfl, hE.out, hEsz, hR.out, hRsz, hg.out, hbel⟩
end Go.Proofs.Qxb6609495a.Ch
