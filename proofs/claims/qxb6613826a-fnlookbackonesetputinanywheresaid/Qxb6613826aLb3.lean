import Derived.Test.Qxb6613826aLb2
namespace Go.Proofs.Qxb6613826a.Lb
open Go.RowKit

theorem info36 : (Try.prog.info? 36).map (fun i => (i.zero, i.size, i.bytes)) = some (some (.agg #[.int .i64 0, .pointer none, .int .i32 0]), 3, 24) := by kernel_rfl
theorem info37 : (Try.prog.info? 37).map (fun i => (i.zero, i.size, i.bytes)) = some (some (.pointer none), 1, 8) := by kernel_rfl

/-- The moves of a row, flat. -/
def fl (x : Nat → Int) : Nat → List Value
  | 0 => []
  | j + 1 => fl x j ++ [.int .i64 (x j), .pointer none, .int .i32 0]
theorem fl_length (x : Nat → Int) (j : Nat) : (fl x j).length = j * 3 := by
  induction j with
  | zero => rfl
  | succ j ih => simp [fl, ih]; omega
theorem fl_get (x : Nat → Int) (m j : Nat) (hj : j < m) : (fl x m)[j * 3]? = some (.int .i64 (x j)) ∧ (fl x m)[j * 3 + 1]? = some (.pointer none) ∧ (fl x m)[j * 3 + 2]? = some (.int .i32 0) := by
  induction m with
  | zero => omega
  | succ m ih =>
    have e : fl x (m + 1) = fl x m ++ [.int .i64 (x m), .pointer none, .int .i32 0] := rfl
    by_cases h : j < m
    · obtain ⟨a, b, c⟩ := ih h
      have hl := fl_length x m
      rw [e, List.getElem?_append_left (by omega), List.getElem?_append_left (by omega), List.getElem?_append_left (by omega)]
      exact ⟨a, b, c⟩
    · obtain rfl : j = m := by omega
      have hl := fl_length x j
      rw [e, List.getElem?_append_right (by omega), List.getElem?_append_right (by omega), List.getElem?_append_right (by omega), hl]
      simp
theorem own_below {w w' : World} {base : Nat} {e : TypeId} {size : Nat} {v : Value} {n : Nat} {xs : List Value} (h : w.ownsRow base e size v n xs) (hb : Below w.heap.size w w') : w'.ownsRow base e size v n xs := by
  obtain ⟨h1, h2⟩ := h
  refine ⟨h1, ?_⟩
  rcases h2 with h2 | ⟨g, cap, cur, hv, hg, hh, r⟩
  · exact Or.inl h2
  · refine Or.inr ⟨g, cap, cur, hv, hg, ?_, r⟩
    rw [hb.block g (by
      rcases Nat.lt_or_ge g w.heap.size with hlt | hge
      · exact hlt
      · rw [Array.getElem?_eq_none hge] at hh; cases hh)]
    exact hh
theorem news_at (W : World) (B : Nat) (cs : Array Value) (t : TypeId) (hB : B = W.heap.size) : ∀ j u, cs.toList[j]? = some u → (W.alloc (.cells cs t)).cell? ((⟨B, 0, none⟩ : Addr).add j) = some u := by
  subst hB; exact World.news_of_block (heap_alloc_new W _)

set_option maxRecDepth 100000 in
set_option maxHeartbeats 2000000 in
theorem zzSets_any (a : Option Addr) (n c : Nat) (V : Nat → Value) (m : Nat → Nat) (x : Nat → Nat → Int) (w : World) (h : DaysAt w a n V m x) (hn : n ≤ 131073) (hm : ∀ i, i < n → m i ≤ 131072) :
    Calls Try.prog 6 #[.slice a n c] w fun e w' => ∃ v, e = .returned v ∧ SetsAt w' v n m x ∧ Below w.heap.size w w' := by
  obtain ⟨i0, hi0, hz0, hz1, hz2⟩ := info_parts info37
  obtain ⟨j0, ji0, jz0, jz1, jz2⟩ := info_parts info36
  have HD : Hid (DaysAt w a n V m x) := h
  clear h
  go_enter Try.func6, Try.ntmps6
  go_wp2_with (at_make; refine wpList_make_own _ rfl _ _ 26 rfl w.heap.size 37 i0 _ 1 Try.underlying26 hi0 hz0 hz1 .i64 .i64 _ n rfl rfl (by omega) (by rw [hz2]; omega) (by unfold maxLen; omega) (Nat.le_refl _) ?_; intro w1 hown1 hgrow1)
  have hbel1 : Below w.heap.size w w1 := (Below.refl _ _).grown hgrow1 (Nat.le_refl _) (fun k h => by cases h)
  clear hgrow1
  go_loopw [3, 4] (fun z i wr => ∃ (k : Nat) (us : List Value), k ≤ n ∧ i = .int .i64 k ∧ z = .slice (some ⟨w.heap.size, 0, none⟩) k n ∧ wr.ownsRow w.heap.size 37 1 (.slice (some ⟨w.heap.size, 0, none⟩) k n) k us ∧ Hid (∀ i, i < k → SetAt w.heap.size wr (us.getD i .nilIface) (m i) (x i)) ∧ Below w.heap.size w wr) (fun _ i _ => n - (intOf i).toNat)
  case atStart => exact ⟨0, [], Nat.zero_le _, rfl, rfl, hown1, fun i hi => by omega, hbel1⟩
  case round =>
    obtain ⟨k, us, hk, rfl, rfl, hown, hsets, hbel⟩ := hrel
    by_cases hlt : k < n
    · obtain ⟨b, o, rfl, hc⟩ : ∃ b o, a = some ⟨b, o, none⟩ ∧ ∀ i, i < n → w.cell? ⟨b, o + i, none⟩ = some (V i) ∧ RowAt w (V i) (m i) (x i) := by
        rcases HD.out with h | h
        · omega
        · exact h
      obtain ⟨z1, p, cc, e, hr⟩ := hc k hlt
      rw [e] at z1
      have y1 := (hbel.cell (cell_lt z1)).trans z1
      have hbw := cell_lt y1
      have HR : Hid (m k = 0 ∨ ∃ b o, p = some ⟨b, o, none⟩ ∧ ∀ j, j < m k → w.cell? ⟨b, o + j, none⟩ = some (.int .i64 (x k j))) := hr
      have hmk := hm k hlt
      have hk1 : (k : Int) < n := by omega
      clear hc hr e z1 HD
      generalize hq : m k = mk at *
      generalize hy : x k = xk at *
      have HQ : Hid (m k = mk ∧ x k = xk) := ⟨hq, hy⟩
      clear hq hy
      have hsz := hbel.size
      obtain ⟨wo, rfl⟩ : ∃ wo : World, wo = wr := ⟨_, rfl⟩
      go_wp2_with (at_make; refine wpList_make_own _ rfl _ _ 31 rfl wo.heap.size 36 j0 _ 3 Try.underlying31 ji0 jz0 jz1 .i64 .i64 _ mk rfl rfl (by omega) (by rw [jz2]; omega) (by unfold maxLen; omega) (Nat.le_refl _) ?_; intro w2 hown2 hgrow2)
      have hbel2 : Below wo.heap.size wo w2 := (Below.refl _ _).grown hgrow2 (Nat.le_refl _) (fun k h => by cases h)
      clear hgrow2
      go_loopw [6, 7] (fun z i wr => ∃ j : Nat, j ≤ mk ∧ i = .int .i64 j ∧ z = .slice (some ⟨wo.heap.size, 0, none⟩) j mk ∧ wr.ownsRow wo.heap.size 36 3 (.slice (some ⟨wo.heap.size, 0, none⟩) j mk) j (fl xk j) ∧ Below wo.heap.size wo wr) (fun _ i _ => mk - (intOf i).toNat)
      case atStart => exact ⟨0, Nat.zero_le _, rfl, rfl, hown2, hbel2⟩
      case round =>
        obtain ⟨j, hj, rfl, rfl, hown3, hbel3⟩ := hrel
        by_cases hjl : j < mk
        · obtain ⟨b2, o2, rfl, hc⟩ : ∃ b o, p = some ⟨b, o, none⟩ ∧ ∀ j, j < mk → w.cell? ⟨b, o + j, none⟩ = some (.int .i64 (xk j)) := by
            rcases HR.out with h | h
            · omega
            · exact h
          have c1 := hc j hjl
          have y2 := (hbel3.cell (p := ⟨b2, o2 + j, none⟩) (by have := cell_lt c1; simp at this ⊢; omega)).trans ((hbel.cell (cell_lt c1)).trans c1)
          have hb2 := cell_lt y2
          have hfl : Hid (fl xk (j + 1) = fl xk j ++ [.int .i64 (xk j), .pointer none, .int .i32 0]) := rfl
          clear hc c1
          have hj1 : (j : Int) < mk := by omega
          generalize xk j = y at *
          have hsz3 := hbel3.size
          go_wp2_with (at_builtin; refine wpList_append_fits _ rfl (.tmp 30) (.tmp 36) 31 rfl wo.heap.size 36 j0 3 Try.underlying31 ji0 jz1 wo.heap.size j mk _ rfl (hown3.alloc _) ⟨wr.heap.size, 0, none⟩ 1 1 [.int .i64 y, .pointer none, .int .i32 0] rfl (by rfl) (news_at _ _ _ _ rfl) (by simp [Value.oneCell']) (by omega) ?_; intro w3 hown4 hgrow4)
          have hbel4 : Below wo.heap.size wo w3 := (hbel3.alloc hsz3 _).grown hgrow4 (by simp; omega) (fun k hk => by simp at hk; omega)
          go_wp2_with fail
          go_roundw
          case rel => exact ⟨j + 1, by omega, by go_num, rfl, by rw [hfl.out]; exact hown4, hbel4⟩
          case measure => simp [intOf]; omega
        · obtain rfl : j = mk := by omega
          have hsz3 := hbel3.size
          have hown5 := own_below hown hbel3
          go_wp2_with (at_builtin; refine wpList_append_fits _ rfl (.tmp 38) (.tmp 42) 26 rfl w.heap.size 37 i0 1 Try.underlying26 hi0 hz1 w.heap.size k n _ rfl ((hown5.alloc _).alloc _) ⟨wr.heap.size + 1, 0, none⟩ 1 1 [.pointer (some ⟨wr.heap.size, 0, none⟩)] rfl (by rfl) (news_at _ _ _ _ (by simp)) (by simp [Value.oneCell']) (by omega) ?_; intro w3 hown6 hgrow6)
          have hg0 : w.heap.size < wo.heap.size := (hown.lt _ rfl).2
          have hl : us.length = k := by simpa using hown.1
          have hk6 : Keeps w.heap.size wr w3 := (Keeps.below (((Below.refl _ wr).alloc (Nat.le_refl _) _).alloc (by simp) _)).trans (Keeps.grown hgrow6)
          have hnew : SetAt w.heap.size w3 (.pointer (some ⟨wr.heap.size, 0, none⟩)) (m k) (x k) := by
            rw [HQ.out.1, HQ.out.2]
            refine ⟨wr.heap.size, some ⟨wo.heap.size, 0, none⟩, j, rfl, by omega, Keeps.grown hgrow6 _ _ (by show w.heap.size < wr.heap.size; omega) ((((Below.refl _ (wr.alloc _)).alloc (Nat.le_refl _) _).cell (by simp)).trans (news_at wr _ _ 49 rfl 16 _ rfl)), .inr ⟨wo.heap.size, rfl, hg0, fun t ht => ?_⟩⟩
            obtain ⟨f1, f2, f3⟩ := fl_get xk j t ht
            exact ⟨hk6 _ _ hg0 ((hown3.cellAt (t * 3) (by omega)).trans f1), hk6 _ _ hg0 ((hown3.cellAt (t * 3 + 1) (by omega)).trans f2), hk6 _ _ hg0 ((hown3.cellAt (t * 3 + 2) (by omega)).trans f3)⟩
          have hbel6 : Below w.heap.size w w3 := ((((hbel.trans (hbel3.mono hsz))).alloc (by omega) _).alloc (by simp; omega) _).grown hgrow6 (by simp; omega) (fun k hk => by simp at hk; omega)
          have hk0 : Keeps w.heap.size wo w3 := (Keeps.below hbel3).trans hk6
          refine ⟨⟨k + 1, us ++ [.pointer (some ⟨wr.heap.size, 0, none⟩)], by omega, by go_num, rfl, hown6, fun i hi => ?_, hbel6⟩, by simp [intOf]; omega⟩
          by_cases e : i = k
          · subst e
            rw [show (us ++ [Value.pointer (some ⟨wr.heap.size, 0, none⟩)]).getD i .nilIface = .pointer (some ⟨wr.heap.size, 0, none⟩) by rw [← hl]; simp [List.getD]]
            exact hnew
          · rw [show (us ++ [Value.pointer (some ⟨wr.heap.size, 0, none⟩)]).getD i .nilIface = us.getD i .nilIface by simp only [List.getD]; rw [List.getElem?_append_left (by omega)]]
            exact (hsets.out i (by omega)).keeps hk0
    · obtain rfl : k = n := by omega
      go_wp2_with fail
      go_ret
      refine ⟨_, rfl, ⟨w.heap.size, k, fun i => us.getD i .nilIface, rfl, fun i hi => ⟨?_, hsets.out i hi⟩⟩, hbel⟩
      have hl : us.length = k := by simpa using hown.1
      rw [hown.cellAt i (by omega), List.getElem?_eq_getElem (by omega)]
      simp [List.getD, show i < us.length by omega]
end Go.Proofs.Qxb6613826a.Lb
