import Derived.Test.Qxb6613826aLb3
namespace Go.Proofs.Qxb6613826a.Lb
open Go.RowKit

/-- R is 0, or was met in the rows before t or in the first u of row t. -/
def Seen (R : Int) (m : Nat → Nat) (x : Nat → Nat → Int) (t u : Nat) : Prop := R = 0 ∨ ∃ i j, ((i < t ∧ j < m i) ∨ (i = t ∧ j < u)) ∧ x i j = R
theorem seen_zero (R : Int) (m : Nat → Nat) (x : Nat → Nat → Int) : (R == 0) = true ↔ Seen R m x 0 0 := by
  constructor
  · intro h; exact .inl (by simpa using h)
  · rintro (h | ⟨i, j, h, _⟩)
    · simpa using h
    · omega
theorem seen_step (R : Int) (m : Nat → Nat) (x : Nat → Nat → Int) (t u : Nat) : Seen R m x t (u + 1) ↔ Seen R m x t u ∨ x t u = R := by
  constructor
  · rintro (h | ⟨i, j, h, e⟩)
    · exact .inl (.inl h)
    · by_cases hh : i = t ∧ j = u
      · obtain ⟨rfl, rfl⟩ := hh; exact .inr e
      · exact .inl (.inr ⟨i, j, by omega, e⟩)
  · rintro ((h | ⟨i, j, h, e⟩) | h)
    · exact .inl h
    · exact .inr ⟨i, j, by omega, e⟩
    · exact .inr ⟨t, u, by omega, h⟩
theorem seen_next (R : Int) (m : Nat → Nat) (x : Nat → Nat → Int) (t : Nat) : Seen R m x (t + 1) 0 ↔ Seen R m x t (m t) := by
  constructor
  · rintro (h | ⟨i, j, h, e⟩)
    · exact .inl h
    · by_cases hh : i = t
      · subst hh; exact .inr ⟨i, j, by omega, e⟩
      · exact .inr ⟨i, j, by omega, e⟩
  · rintro (h | ⟨i, j, h, e⟩)
    · exact .inl h
    · by_cases hh : i = t
      · subst hh; exact .inr ⟨i, j, by omega, e⟩
      · exact .inr ⟨i, j, by omega, e⟩

theorem DaysAt.head {w : World} {a : Option Addr} {n : Nat} {V : Nat → Value} {m : Nat → Nat} {x : Nat → Nat → Int} (h : DaysAt w a n V m x) (k : Nat) (hk : k ≤ n) : DaysAt w a k V m x := by
  rcases h with h | ⟨b, o, rfl, hc⟩
  · exact .inl (by omega)
  · exact .inr ⟨b, o, rfl, fun i hi => hc i (by omega)⟩
theorem DaysAt.tail {w : World} {b o : Nat} {n : Nat} {V : Nat → Value} {m : Nat → Nat} {x : Nat → Nat → Int} (h : DaysAt w (some ⟨b, o, none⟩) n V m x) (k : Nat) (hk : k ≤ n) (p : Option Addr) (hp : k < n → p = some ⟨b, o + k, none⟩) : DaysAt w p (n - k) (fun i => V (k + i)) (fun i => m (k + i)) (fun i => x (k + i)) := by
  by_cases e : k < n
  · rcases h with h | ⟨b', o', he, hc⟩
    · omega
    · simp only [Option.some.injEq, Addr.mk.injEq] at he
      obtain ⟨rfl, rfl, _⟩ := he
      refine .inr ⟨b, o + k, hp e, fun i hi => ?_⟩
      rw [Nat.add_assoc]
      exact hc (k + i) (by omega)
  · exact .inl (by omega)

set_option maxRecDepth 100000 in
set_option maxHeartbeats 2000000 in
theorem cut_pos (b o c n : Nat) (V : Nat → Value) (m : Nat → Nat) (x : Nat → Nat → Int) (q : Int) (w : World) (h : DaysAt w (some ⟨b, o, none⟩) n V m x) (hcap : n ≤ c) :
    Calls Try.prog 3 #[.slice (some ⟨b, o, none⟩) n c, .int .i64 q] w fun e w' => e = .returned (.bool true) ∧ Below w.heap.size w w' := by
  by_cases hbig : (131072 : Int) < n
  · go_enter Try.func3, Try.ntmps3
    go_wp2_with fail
    refine (bytes5_any _ n c V m x q w h).mono ?_
    rintro e w' ⟨⟨r, rfl⟩, rfl⟩
    cases r
    · go_wp2_with fail
      go_ret
      exact ⟨rfl, Below.refl _ _⟩
    · go_wp2_with fail
      go_ret
      exact ⟨rfl, Below.refl _ _⟩
  have HD : Hid (DaysAt w (some ⟨b, o, none⟩) n V m x) := h
  go_enter Try.func3, Try.ntmps3
  go_wp2_with fail
  refine (bytes5_any _ n c V m x q w h).mono ?_
  clear h
  rintro e w' ⟨⟨r, rfl⟩, rfl⟩
  cases r
  · go_wp2_with fail
    go_ret
    exact ⟨rfl, Below.refl _ _⟩
  go_wp2_with fail
  go_loop [5, 6] (fun z i => ∃ (k : Nat) (y : Int), k ≤ n ∧ i = .int .i64 k ∧ z = .int .i64 y ∧ 0 ≤ y ∧ y ≤ 1048576 ∧ Hid (∀ i, i < k → m i ≤ 131072)) (fun _ i => n - (intOf i).toNat)
  case atStart => exact ⟨0, _, Nat.zero_le _, rfl, rfl, by omega, by omega, fun i hi => by omega⟩
  case round =>
    obtain ⟨k, y, hk, rfl, rfl, hy0, hy1, hall⟩ := hrel
    by_cases hlt : k < n
    · obtain ⟨z1, p, cc, e, _⟩ : w.cell? ⟨b, o + k, none⟩ = some (V k) ∧ RowAt w (V k) (m k) (x k) := by
        rcases HD.out with h | ⟨b', o', he, hc⟩
        · omega
        · simp only [Option.some.injEq, Addr.mk.injEq] at he
          obtain ⟨rfl, rfl, _⟩ := he
          exact hc k hlt
      rw [e] at z1
      clear e
      have hk1 : (k : Int) < n := by omega
      have hstep : Hid (m k ≤ 131072 → ∀ i, i < k + 1 → m i ≤ 131072) := fun hh i hi => by
        by_cases e : i = k
        · rw [e]; exact hh
        · exact hall.out i (by omega)
      generalize m k = mk at *
      by_cases t1 : (131072 : Int) < mk
      · go_wp2_with fail
        go_ret
        exact ⟨rfl, Below.refl _ _⟩
      by_cases t2 : (1048576 : Int) < y + mk * 8
      · go_wp2_with fail
        go_ret
        exact ⟨rfl, Below.refl _ _⟩
      go_wp2_with fail
      go_round
      case rel => exact ⟨k + 1, _, by omega, by go_num, rfl, by omega, by omega, hstep.out (by omega)⟩
      case measure => simp [intOf]; omega
    · obtain rfl : k = n := by omega
      by_cases t1 : q < 0
      · go_wp2_with fail
        go_ret
        exact ⟨rfl, Below.refl _ _⟩
      by_cases t2 : (k : Int) < q
      · go_wp2_with fail
        go_ret
        exact ⟨rfl, Below.refl _ _⟩
      obtain ⟨j, rfl⟩ : ∃ j : Nat, q = j := ⟨q.toNat, by omega⟩
      have hjk : j ≤ k := by omega
      go_wp2_with fail
      refine (zzSets_any _ k c V m x w HD.out (by omega) hall.out).mono ?_
      rintro e w1 ⟨v1, rfl, hs1, hb1⟩
      go_wp2_with fail
      refine (lookBack_any v1 k m x w1 hs1 (by omega) (fun i hi => by have := hall.out i hi; omega)).mono ?_
      rintro e w2 ⟨rfl, hb2⟩
      have hw2 : Below w.heap.size w w2 := hb1.trans (hb2.mono hb1.size)
      clear hs1 hb1 hb2
      go_wp2_with fail
      refine (zzSets_any _ j c V m x w2 ((HD.out.below hw2).head j hjk) (by omega) (fun i hi => hall.out i (by omega))).mono ?_
      rintro e w3 ⟨v3, rfl, hs3, hb3⟩
      go_wp2_with fail
      refine (lookBack_any v3 j m x w3 hs3 (by omega) (fun i hi => by have := hall.out i (by omega); omega)).mono ?_
      rintro e w4 ⟨rfl, hb4⟩
      have hw4 : Below w.heap.size w w4 := hw2.trans ((hb3.trans (hb4.mono hb3.size)).mono hw2.size)
      clear hs3 hb3 hb4 hw2
      go_wp2_with fail
      all_goals
        refine (zzSets_any _ (k - j) _ _ _ _ w4 ((HD.out.below hw4).tail j hjk _ (fun hh => by first | omega | rfl)) (by omega) (fun i hi => hall.out (j + i) (by omega))).mono ?_
        rintro e w5 ⟨v5, rfl, hs5, hb5⟩
        go_wp2_with fail
        refine (lookBack_any v5 (k - j) _ _ w5 hs5 (by omega) (fun i hi => by have := hall.out (j + i) (by omega); omega)).mono ?_
        rintro e w6 ⟨rfl, hb6⟩
        have hw6 : Below w.heap.size w w6 := hw4.trans ((hb5.trans (hb6.mono hb5.size)).mono hw4.size)
        clear hs5 hb5 hb6 hw4
        have hz := zzMax_any (lb m x j) (lb (fun i => m (j + i)) (fun i => x (j + i)) (k - j)) w6
        rw [← lb_cut m x k j hjk] at hz
        obtain ⟨hr0, hr1, hr2⟩ := lb_lub m x k
        have HR1 : Hid (∀ i, i < k → ∀ j, j < m i → x i j ≤ lb m x k) := hr1
        have HR2 : Hid (lb m x k = 0 ∨ ∃ i, i < k ∧ ∃ j, j < m i ∧ x i j = lb m x k) := hr2
        have HD6 : Hid (DaysAt w6 (some ⟨b, o, none⟩) k V m x) := HD.out.below hw6
        have hmk : Hid (∀ i, i < k → m i ≤ 131072) := hall.out
        clear hr1 hr2 HD hall
        have hr3 : ¬ lb m x k < 0 := by omega
        go_wp2_with fail
        refine hz.mono ?_
        clear hz
        rintro e w' ⟨rfl, rfl⟩
        generalize lb m x k = R at *
        go_wp2_with fail
        go_loop [10, 11] (fun h i => ∃ (t : Nat) (hb : Bool), t ≤ k ∧ i = .int .i64 t ∧ h = .bool hb ∧ Hid (hb = true ↔ Seen R m x t 0)) (fun _ i => k - (intOf i).toNat)
        case atStart => exact ⟨0, _, Nat.zero_le _, rfl, rfl, seen_zero R m x⟩
        case round =>
          obtain ⟨t, hb, ht, rfl, rfl, hseen⟩ := hrel
          by_cases hlt : t < k
          · obtain ⟨z1, p, cc, e, hrow⟩ : w6.cell? ⟨b, o + t, none⟩ = some (V t) ∧ RowAt w6 (V t) (m t) (x t) := by
              rcases HD6.out with h | ⟨b', o', he, hc⟩
              · omega
              · simp only [Option.some.injEq, Addr.mk.injEq] at he
                obtain ⟨rfl, rfl, _⟩ := he
                exact hc t hlt
            rw [e] at z1
            have hmt := hmk.out t hlt
            have HRow : Hid (m t = 0 ∨ ∃ b o, p = some ⟨b, o, none⟩ ∧ ∀ j, j < m t → w6.cell? ⟨b, o + j, none⟩ = some (.int .i64 (x t j))) := hrow
            clear e hrow
            have ht1 : (t : Int) < k := by omega
            go_wp2_with fail
            go_loop [10, 12] (fun h i => ∃ (u : Nat) (hb : Bool), u ≤ m t ∧ i = .int .i64 u ∧ h = .bool hb ∧ Hid (hb = true ↔ Seen R m x t u)) (fun _ i => m t - (intOf i).toNat)
            case atStart => exact ⟨0, _, Nat.zero_le _, rfl, rfl, hseen⟩
            case round =>
              obtain ⟨u, hb2, hu, rfl, rfl, hseen2⟩ := hrel
              by_cases hul : u < m t
              · obtain ⟨b2, o2, rfl, hc⟩ : ∃ b o, p = some ⟨b, o, none⟩ ∧ ∀ j, j < m t → w6.cell? ⟨b, o + j, none⟩ = some (.int .i64 (x t j)) := by
                  rcases HRow.out with h | h
                  · omega
                  · exact h
                have y1 := hc u hul
                have hle := HR1.out t hlt u hul
                have hst : Hid (Seen R m x t (u + 1) ↔ Seen R m x t u ∨ x t u = R) := seen_step R m x t u
                have hu1 : (u : Int) < m t := by omega
                clear hc
                generalize x t u = y at *
                have hng : ¬ R < y := by omega
                by_cases hy : y = R
                · have HS : Hid (Seen R m x t (u + 1)) := hst.out.2 (.inr hy)
                  subst hy
                  go_wp2_with fail
                  go_round
                  case rel => exact ⟨u + 1, _, by omega, by go_num, rfl, ⟨fun _ => HS.out, fun _ => rfl⟩⟩
                  case measure => simp [intOf]; omega
                · have HS : Hid (hb2 = true ↔ Seen R m x t (u + 1)) := by
                    refine hseen2.out.trans ⟨fun hh => hst.out.2 (.inl hh), fun hh => ?_⟩
                    rcases hst.out.1 hh with h | h
                    · exact h
                    · exact absurd h hy
                  go_wp2_with fail
                  go_round
                  case rel => exact ⟨u + 1, _, by omega, by go_num, rfl, HS.out⟩
                  case measure => simp [intOf]; omega
              · obtain hue : u = m t := by omega
                have HS : Hid (hb2 = true ↔ Seen R m x (t + 1) 0) := by
                  rw [seen_next, ← hue]; exact hseen2.out
                have hu2 : ¬ (u : Int) < m t := by omega
                go_wp2_with fail
                go_round
                case rel => exact ⟨t + 1, _, by omega, by go_num, rfl, HS.out⟩
                case measure => simp [intOf]; omega
          · obtain rfl : t = k := by omega
            obtain rfl : hb = true := hseen.out.2 (by
              rcases HR2.out with h | ⟨i, hi, j, hj, h⟩
              · exact .inl h
              · exact .inr ⟨i, j, .inl ⟨hi, hj⟩, h⟩)
            go_wp2_with fail
            go_ret
            exact ⟨rfl, hw6⟩
end Go.Proofs.Qxb6613826a.Lb
