import Derived.Test.Qxb6613826aLb5
namespace Go.Proofs.Qxb6613826a.Lb
open Go.RowKit

theorem info24 : (Try.prog.info? 24).map (fun i => (i.zero, i.size, i.bytes)) = some (some (.slice none 0 0), 1, 24) := by kernel_rfl

/-- The rows with one put in at place p. -/
def putV (p : Nat) (u : Value) (V : Nat → Value) (i : Nat) : Value := if i < p then V i else if i = p then u else V (i - 1)
def firstV (V : Nat → Value) (k : Nat) : List Value := (List.range k).map V
theorem firstV_succ (V : Nat → Value) (k : Nat) : firstV V (k + 1) = firstV V k ++ [V k] := by simp [firstV, List.range_succ]
theorem firstV_length (V : Nat → Value) (k : Nat) : (firstV V k).length = k := by simp [firstV]
theorem firstV_get (V : Nat → Value) (k i : Nat) (hi : i < k) : (firstV V k)[i]? = some (V i) := by simp [firstV, hi]
theorem firstV_put (p : Nat) (u : Value) (V : Nat → Value) : firstV V p ++ [u] = firstV (putV p u V) (p + 1) := by
  rw [firstV_succ]
  have e : firstV V p = firstV (putV p u V) p := by
    unfold firstV
    refine List.map_congr_left fun i hi => ?_
    rw [putV, if_pos (List.mem_range.1 hi)]
  have e2 : putV p u V p = u := by simp [putV]
  rw [← e, e2]
theorem putV_past (p : Nat) (u : Value) (V : Nat → Value) (k : Nat) (hk : p ≤ k) : putV p u V (k + 1) = V k := by
  rw [putV, if_neg (by omega), if_neg (by omega)]; rfl

theorem put_rows {w w' : World} {a : Option Addr} {n c p g D : Nat} {d : Int} {V : Nat → Value} {m : Nat → Nat} {x : Nat → Nat → Int} (h : DaysAt w a n V m x) (hb : Below w.heap.size w w') (hp : p ≤ n)
    (hown : w'.ownsRow w.heap.size 24 1 (.slice (some ⟨g, 0, none⟩) (n + 1) c) (n + 1) (firstV (putV p (.slice (some ⟨D, 0, none⟩) 1 1) V) (n + 1))) (hD : w'.cell? ⟨D, 0, none⟩ = some (.int .i64 d)) :
    DaysAt w' (some ⟨g, 0, none⟩) (n + 1) (putV p (.slice (some ⟨D, 0, none⟩) 1 1) V) (putM p m) (putX p d x) := by
  refine .inr ⟨g, 0, rfl, fun i hi => ⟨?_, ?_⟩⟩
  · rw [Nat.zero_add, hown.cellAt i (by omega), firstV_get _ _ _ hi]
  · have hrow : ∀ j, j < n → RowAt w' (V j) (m j) (x j) := fun j hj => by
      rcases h with h | ⟨b, o, rfl, hc⟩
      · omega
      · exact (hc j hj).2.below hb
    unfold putV putM
    by_cases e : i < p
    · rw [if_pos e, if_pos e, show putX p d x i = x i from funext fun j => by simp [putX, e]]
      exact hrow i (by omega)
    · rw [if_neg e, if_neg e]
      by_cases e2 : i = p
      · rw [if_pos e2, if_pos e2]
        refine ⟨_, _, rfl, .inr ⟨D, 0, rfl, fun j hj => ?_⟩⟩
        obtain rfl : j = 0 := by omega
        rw [putX, if_neg e, if_pos e2]
        exact hD
      · rw [if_neg e2, if_neg e2, show putX p d x i = x (i - 1) from funext fun j => by simp [putX, e, e2]]
        exact hrow (i - 1) (by omega)

set_option maxRecDepth 100000 in
set_option maxHeartbeats 2000000 in
theorem put_any (a : Option Addr) (n c : Nat) (V : Nat → Value) (m : Nat → Nat) (x : Nat → Nat → Int) (q d : Int) (w : World) (h : DaysAt w a n V m x) :
    Calls Try.prog 4 #[.slice a n c, .int .i64 q, .int .i64 d] w fun e w' => e = .returned (.bool true) ∧ Below w.heap.size w w' := by
  obtain ⟨i0, hi0, hz0, hz1, hz2⟩ := info_parts info24
  by_cases hbig : (131072 : Int) < n
  · go_enter Try.func4, Try.ntmps4
    go_wp2_with fail
    refine (bytes9_any _ n c V m x q d w h).mono ?_
    rintro e w' ⟨⟨r, rfl⟩, rfl⟩
    cases r
    · go_wp2_with fail
      go_ret
      exact ⟨rfl, Below.refl _ _⟩
    · go_wp2_with fail
      go_ret
      exact ⟨rfl, Below.refl _ _⟩
  have HD : Hid (DaysAt w a n V m x) := h
  go_enter Try.func4, Try.ntmps4
  go_wp2_with fail
  refine (bytes9_any _ n c V m x q d w h).mono ?_
  clear h
  rintro e w' ⟨⟨r, rfl⟩, rfl⟩
  cases r
  · go_wp2_with fail
    go_ret
    exact ⟨rfl, Below.refl _ _⟩
  go_wp2_with fail
  go_loop [7, 8] (fun z i => ∃ (k : Nat) (y : Int), k ≤ n ∧ i = .int .i64 k ∧ z = .int .i64 y ∧ 0 ≤ y ∧ y ≤ 1048576 ∧ Hid (∀ i, i < k → m i ≤ 131072)) (fun _ i => n - (intOf i).toNat)
  case atStart => exact ⟨0, _, Nat.zero_le _, rfl, rfl, by omega, by omega, fun i hi => by omega⟩
  case round =>
    obtain ⟨k, y, hk, rfl, rfl, hy0, hy1, hall⟩ := hrel
    by_cases hlt : k < n
    · obtain ⟨b, o, rfl, hc⟩ : ∃ b o, a = some ⟨b, o, none⟩ ∧ ∀ i, i < n → w.cell? ⟨b, o + i, none⟩ = some (V i) ∧ RowAt w (V i) (m i) (x i) := by
        rcases HD.out with h | h
        · omega
        · exact h
      obtain ⟨z1, p, cc, e, _⟩ := hc k hlt
      rw [e] at z1
      clear e hc
      have hk1 : (k : Int) < n := by omega
      have hstep : Hid (m k ≤ 131072 → ∀ i, i < k + 1 → m i ≤ 131072) := fun hh i hi => by
        by_cases e : i = k
        · rw [e]; exact hh
        · exact hall.out i (by omega)
      generalize m k = mk at *
      by_cases t1 : (131072 : Int) < mk
      · go_wp2_with fail
        go_ret
        exact ⟨rfl, Below.refl _ _⟩
      by_cases t2 : (1048576 : Int) < y + mk * 8
      · go_wp2_with fail
        go_ret
        exact ⟨rfl, Below.refl _ _⟩
      go_wp2_with fail
      go_round
      case rel => exact ⟨k + 1, _, by omega, by go_num, rfl, by omega, by omega, hstep.out (by omega)⟩
      case measure => simp [intOf]; omega
    · obtain rfl : k = n := by omega
      by_cases t1 : q < 0
      · go_wp2_with fail
        go_ret
        exact ⟨rfl, Below.refl _ _⟩
      by_cases t2 : (k : Int) < q
      · go_wp2_with fail
        go_ret
        exact ⟨rfl, Below.refl _ _⟩
      obtain ⟨p, rfl⟩ : ∃ p : Nat, q = p := ⟨q.toNat, by omega⟩
      have hpk : p ≤ k := by omega
      have hmk : Hid (∀ i, i < k → m i ≤ 131072) := hall
      clear hall hlt
      go_wp2_with (at_make; refine wpList_make_own _ rfl _ _ 22 rfl w.heap.size 24 i0 _ 1 Try.underlying22 hi0 hz0 hz1 .i64 .i64 _ (k + 1) rfl rfl (by omega) (by rw [hz2]; omega) (by unfold maxLen; omega) (Nat.le_refl _) ?_; intro w1 hown1 hgrow1)
      have hbel1 : Below w.heap.size w w1 := (Below.refl _ _).grown hgrow1 (Nat.le_refl _) (fun k h => by cases h)
      clear hgrow1
      go_loopw [9, 10] (fun z i wr => ∃ t : Nat, t ≤ p ∧ i = .int .i64 t ∧ z = .slice (some ⟨w.heap.size, 0, none⟩) t (k + 1) ∧ wr.ownsRow w.heap.size 24 1 (.slice (some ⟨w.heap.size, 0, none⟩) t (k + 1)) t (firstV V t) ∧ Below w.heap.size w wr) (fun _ i _ => p - (intOf i).toNat)
      case atStart => exact ⟨0, Nat.zero_le _, rfl, rfl, hown1, hbel1⟩
      case round =>
        obtain ⟨t, ht, rfl, rfl, hown, hbel⟩ := hrel
        by_cases htl : t < p
        · obtain ⟨b, o, rfl, hc⟩ : ∃ b o, a = some ⟨b, o, none⟩ ∧ ∀ i, i < k → w.cell? ⟨b, o + i, none⟩ = some (V i) ∧ RowAt w (V i) (m i) (x i) := by
            rcases HD.out with h | h
            · omega
            · exact h
          obtain ⟨z1, pp, cc, e, _⟩ := hc t (by omega)
          have hfl : Hid (firstV V (t + 1) = firstV V t ++ [.slice pp (m t) cc]) := by rw [firstV_succ, e]; rfl
          rw [e] at z1
          have y1 := (hbel.cell (cell_lt z1)).trans z1
          have hbw := cell_lt y1
          have hsz := hbel.size
          clear hc e z1
          have ht1 : (t : Int) < k := by omega
          have ht2 : (t : Int) < p := by omega
          generalize m t = mt at *
          go_wp2_with (at_builtin; refine wpList_append_fits _ rfl (.tmp 64) (.tmp 69) 22 rfl w.heap.size 24 i0 1 Try.underlying22 hi0 hz1 w.heap.size t (k + 1) _ rfl (hown.alloc _) ⟨wr.heap.size, 0, none⟩ 1 1 [.slice pp mt cc] rfl (by rfl) (news_at _ _ _ _ rfl) (by simp [Value.oneCell']) (by omega) ?_; intro w3 hown3 hgrow3)
          have hbel3 : Below w.heap.size w w3 := (hbel.alloc hsz _).grown hgrow3 (by simp; omega) (fun k hk => by simp at hk; omega)
          go_wp2_with fail
          go_roundw
          case rel => exact ⟨t + 1, by omega, by go_num, rfl, by rw [hfl.out]; exact hown3, hbel3⟩
          case measure => simp [intOf]; omega
        · obtain rfl : t = p := by omega
          have hsz := hbel.size
          have hg0 : w.heap.size < wr.heap.size := (hown.lt _ rfl).2
          go_wp2_with (at_builtin; refine wpList_append_fits _ rfl (.tmp 71) (.tmp 74) 22 rfl w.heap.size 24 i0 1 Try.underlying22 hi0 hz1 w.heap.size t (k + 1) _ rfl ((hown.alloc _).alloc _) ⟨wr.heap.size + 1, 0, none⟩ 1 1 [.slice (some ⟨wr.heap.size, 0, none⟩) 1 1] rfl (by rfl) (news_at _ _ _ _ (by simp)) (by simp [Value.oneCell']) (by omega) ?_; intro w3 hown3 hgrow3)
          have hbel3 : Below w.heap.size w w3 := ((hbel.alloc hsz _).alloc (by simp; omega) _).grown hgrow3 (by simp; omega) (fun k hk => by simp at hk; omega)
          have hD3 : w3.cell? ⟨wr.heap.size, 0, none⟩ = some (.int .i64 d) := Keeps.grown hgrow3 _ _ hg0 ((((Below.refl _ (wr.alloc _)).alloc (Nat.le_refl _) _).cell (by simp)).trans (news_at wr _ _ 3 rfl 0 _ rfl))
          rw [firstV_put] at hown3
          clear hgrow3 hown hbel hown1
          generalize hDD : wr.heap.size = D at *
          clear hDD
          go_wp2_with fail
          go_loopw [9, 11] (fun z i wr => ∃ s : Nat, t ≤ s ∧ s ≤ k ∧ i = .int .i64 s ∧ z = .slice (some ⟨w.heap.size, 0, none⟩) (s + 1) (k + 1) ∧ wr.ownsRow w.heap.size 24 1 (.slice (some ⟨w.heap.size, 0, none⟩) (s + 1) (k + 1)) (s + 1) (firstV (putV t (.slice (some ⟨D, 0, none⟩) 1 1) V) (s + 1)) ∧ Below w.heap.size w wr ∧ wr.cell? ⟨D, 0, none⟩ = some (.int .i64 d)) (fun _ i _ => k - (intOf i).toNat)
          case atStart => exact ⟨t, Nat.le_refl _, hpk, rfl, rfl, hown3, hbel3, hD3⟩
          case round =>
            obtain ⟨s, hts, hsk, rfl, rfl, hown, hbel, hD⟩ := hrel
            by_cases hsl : s < k
            · obtain ⟨b, o, rfl, hc⟩ : ∃ b o, a = some ⟨b, o, none⟩ ∧ ∀ i, i < k → w.cell? ⟨b, o + i, none⟩ = some (V i) ∧ RowAt w (V i) (m i) (x i) := by
                rcases HD.out with h | h
                · omega
                · exact h
              obtain ⟨z1, pp, cc, e, _⟩ := hc s hsl
              have hfl : Hid (firstV (putV t (.slice (some ⟨D, 0, none⟩) 1 1) V) (s + 1 + 1) = firstV (putV t (.slice (some ⟨D, 0, none⟩) 1 1) V) (s + 1) ++ [.slice pp (m s) cc]) := by rw [firstV_succ, putV_past _ _ _ _ hts, e]; rfl
              rw [e] at z1
              have y1 := (hbel.cell (cell_lt z1)).trans z1
              have hbw := cell_lt y1
              have hsz := hbel.size
              clear hc e z1
              have hs1 : (s : Int) < k := by omega
              generalize m s = ms at *
              go_wp2_with (at_builtin; refine wpList_append_fits _ rfl (.tmp 83) (.tmp 88) 22 rfl w.heap.size 24 i0 1 Try.underlying22 hi0 hz1 w.heap.size (s + 1) (k + 1) _ rfl (hown.alloc _) ⟨wr.heap.size, 0, none⟩ 1 1 [.slice pp ms cc] rfl (by rfl) (news_at _ _ _ _ rfl) (by simp [Value.oneCell']) (by omega) ?_; intro w4 hown4 hgrow4)
              have hbel4 : Below w.heap.size w w4 := (hbel.alloc hsz _).grown hgrow4 (by simp; omega) (fun k hk => by simp at hk; omega)
              have hD4 : w4.cell? ⟨D, 0, none⟩ = some (.int .i64 d) := Keeps.grown hgrow4 _ _ hg0 ((((Below.refl _ wr).alloc (Nat.le_refl _) _).cell (cell_lt hD)).trans hD)
              go_wp2_with fail
              go_roundw
              case rel => exact ⟨s + 1, by omega, by omega, by go_num, rfl, by rw [hfl.out]; exact hown4, hbel4, hD4⟩
              case measure => simp [intOf]; omega
            · obtain rfl : s = k := by omega
              have hdays := put_rows HD.out hbel hpk hown hD
              have hlen : Hid (∀ i, i < s + 1 → putM t m i ≤ 131072) := fun i hi => by
                unfold putM
                by_cases e : i < t
                · rw [if_pos e]; exact hmk.out i (by omega)
                · rw [if_neg e]
                  by_cases e2 : i = t
                  · rw [if_pos e2]; omega
                  · rw [if_neg e2]; exact hmk.out (i - 1) (by omega)
              have HD' : Hid (DaysAt wr (some ⟨w.heap.size, 0, none⟩) (s + 1) (putV t (.slice (some ⟨D, 0, none⟩) 1 1) V) (putM t m) (putX t d x)) := hdays
              clear hdays hown hD hown3 hD3 hbel3
              go_wp2_with fail
              refine (zzSets_any _ s c V m x wr (HD.out.below hbel) (by omega) hmk.out).mono ?_
              rintro e w5 ⟨v5, rfl, hs5, hb5⟩
              go_wp2_with fail
              refine (lookBack_any v5 s m x w5 hs5 (by omega) (fun i hi => by have := hmk.out i hi; omega)).mono ?_
              rintro e w6 ⟨rfl, hb6⟩
              have hb56 := hb5.trans (hb6.mono hb5.size)
              have hw6 : Below w.heap.size w w6 := hbel.trans (hb56.mono hbel.size)
              clear hs5 hb5 hb6
              go_wp2_with fail
              refine (zzSets_any _ (s + 1) _ _ _ _ w6 (HD'.out.below hb56) (by omega) hlen.out).mono ?_
              rintro e w7 ⟨v7, rfl, hs7, hb7⟩
              go_wp2_with fail
              refine (lookBack_any v7 (s + 1) _ _ w7 hs7 (by omega) (fun i hi => by have := hlen.out i hi; omega)).mono ?_
              rintro e w8 ⟨rfl, hb8⟩
              have hw8 : Below w.heap.size w w8 := hw6.trans ((hb7.trans (hb8.mono hb7.size)).mono hw6.size)
              clear hs7 hb7 hb8
              rw [lb_put m x s t d hpk]
              have hz := zzMax_any (lb m x s) d w8
              generalize (if d < lb m x s then lb m x s else d) = R at *
              go_wp2_with fail
              refine hz.mono ?_
              clear hz
              rintro e w' ⟨rfl, rfl⟩
              go_wp2_with fail
              go_ret
              exact ⟨by simp, hw8⟩
end Go.Proofs.Qxb6613826a.Lb
