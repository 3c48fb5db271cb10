import Derived.Test.Qxb6613789aCs6
namespace Go.Proofs.Qxb6613789a.Cs
open Go.RowKit
attribute [local go_sem ↓] Go.wp_at_zero Go.wp_at_succ

set_option maxHeartbeats 1000000 in
/-- The law, where it is not asked: too long, or of two lengths. -/
theorem class_short (a1 a2 : Option Addr) (n1 c1 n2 c2 : Nat) (r : Int) (w : World) (h : 65536 < n1 ∨ 65536 < n2 ∨ n1 ≠ n2) :
    Calls Try.prog 6 #[.slice a1 n1 c1, .slice a2 n2 c2, .int .i32 r] w fun e w' => e = .returned (.bool true) ∧ Below w.heap.size w w' := by
  by_cases h1 : 65536 < n1
  · have H1 : (65536 : Int) < n1 := by omega
    go_enter Try.func6, Try.ntmps6
    go_wp2_with fail
    refine (bytes26_any a1 a2 n1 c1 n2 c2 r w).mono ?_
    rintro e w' ⟨⟨b, rfl⟩, rfl⟩
    cases b
    · go_wp2_with fail
      go_ret
      exact ⟨rfl, Below.refl _ _⟩
    · go_wp2_with fail
      go_ret
      exact ⟨rfl, Below.refl _ _⟩
  · by_cases h2 : 65536 < n2
    · have H1 : ¬ (65536 : Int) < n1 := by omega
      have H2 : (65536 : Int) < n2 := by omega
      go_enter Try.func6, Try.ntmps6
      go_wp2_with fail
      refine (bytes26_any a1 a2 n1 c1 n2 c2 r w).mono ?_
      rintro e w' ⟨⟨b, rfl⟩, rfl⟩
      cases b
      · go_wp2_with fail
        go_ret
        exact ⟨rfl, Below.refl _ _⟩
      · go_wp2_with fail
        go_ret
        exact ⟨rfl, Below.refl _ _⟩
    · have H1 : ¬ (65536 : Int) < n1 := by omega
      have H2 : ¬ (65536 : Int) < n2 := by omega
      have H3 : ¬ (1048576 : Int) < 4 * n1 + 4 * n2 := by omega
      have H4 : ¬ (n2 : Int) = n1 := by omega
      have H5 : ¬ n2 = n1 := by omega
      go_enter Try.func6, Try.ntmps6
      go_wp2_with fail
      refine (bytes26_any a1 a2 n1 c1 n2 c2 r w).mono ?_
      rintro e w' ⟨⟨b, rfl⟩, rfl⟩
      cases b
      · go_wp2_with fail
        go_ret
        exact ⟨rfl, Below.refl _ _⟩
      · go_wp2_with fail
        go_ret
        exact ⟨rfl, Below.refl _ _⟩

set_option maxHeartbeats 1000000 in
theorem class_none (a1 a2 : Option Addr) (c1 c2 : Nat) (r : Int) (w : World) :
    Calls Try.prog 6 #[.slice a1 0 c1, .slice a2 0 c2, .int .i32 r] w fun e w' => e = .returned (.bool true) ∧ Below w.heap.size w w' := by
  go_enter Try.func6, Try.ntmps6
  go_wp2_with fail
  refine (bytes26_any a1 a2 0 c1 0 c2 r w).mono ?_
  rintro e w' ⟨⟨b, rfl⟩, rfl⟩
  cases b
  · go_wp2_with fail
    go_ret
    exact ⟨rfl, Below.refl _ _⟩
  · go_wp2_with fail
    refine wp_loop_rounds 1 ?_
    rw [rounds_succ]
    go_wp2_with fail
    refine (ranges_none a1 a2 c1 c2 w).mono ?_
    rintro e w1 ⟨g, cap, rfl, hown, hb1⟩
    go_wp2_with fail
    refine (newClass_of _ [] w1 (by simp) (newSet_row _ g cap [] w1 hown (by simp) (by simp))).mono ?_
    rintro e w2 ⟨C, rfl, hC, hb2⟩
    go_wp2_with fail
    refine (classContains C _ r w2 hC).mono ?_
    rintro e w3 ⟨⟨b, rfl, hb⟩, q, rfl⟩
    obtain rfl : b = false := by
      cases b
      · rfl
      · exact absurd (hb.1 rfl) (inR_nil r)
    clear hb hC
    go_wp2_with fail
    refine (some_none a1 a2 c1 c2 r _).mono ?_
    rintro e w4 ⟨rfl, rfl⟩
    go_wp2_with fail
    go_ret
    exact ⟨rfl, below_drewN (hb1.trans (hb2.mono hb1.size)) q⟩

set_option maxHeartbeats 2000000 in
set_option maxRecDepth 100000 in
theorem class_pos (b1 o1 c1 b2 o2 c2 n : Nat) (lo hi : Nat → Int) (r : Int) (w : World) (hlo : ∀ j, j < n → w.cell? ⟨b1, o1 + j, none⟩ = some (.int .i32 (lo j))) (hhi : ∀ j, j < n → w.cell? ⟨b2, o2 + j, none⟩ = some (.int .i32 (hi j)))
    (hn : n ≤ 65536) (hpos : 0 < n) :
    Calls Try.prog 6 #[.slice (some ⟨b1, o1, none⟩) n c1, .slice (some ⟨b2, o2, none⟩) n c2, .int .i32 r] w fun e w' => e = .returned (.bool true) ∧ Below w.heap.size w w' := by
  have hb1 : b1 < w.heap.size := cell_lt (hlo 0 hpos)
  have hb2 : b2 < w.heap.size := cell_lt (hhi 0 hpos)
  have H1 : ¬ (65536 : Int) < n := by omega
  have H3 : ¬ (1048576 : Int) < 4 * n + 4 * n := by omega
  have AL : Hid (∀ j, j < n → w.cell? ⟨b1, o1 + j, none⟩ = some (.int .i32 (lo j))) := hlo
  have AH : Hid (∀ j, j < n → w.cell? ⟨b2, o2 + j, none⟩ = some (.int .i32 (hi j))) := hhi
  clear hlo hhi
  go_enter Try.func6, Try.ntmps6
  go_wp2_with fail
  refine (bytes26_any _ _ n c1 n c2 r w).mono ?_
  rintro e w' ⟨⟨b, rfl⟩, rfl⟩
  cases b
  · go_wp2_with fail
    go_ret
    exact ⟨rfl, Below.refl _ _⟩
  · go_wp2_with fail
    go_loop [7] (fun i => ∃ k : Nat, k ≤ n ∧ i = .int .i64 k ∧ Hid (∀ j, j < k → Ok (lo j, hi j))) (fun i => n - (intOf i).toNat)
    case atStart => exact ⟨0, Nat.zero_le _, rfl, fun j hj => by omega⟩
    case round =>
      obtain ⟨k, hk, rfl, hall⟩ := hrel
      by_cases hlt : k < n
      · have z1 := AL.out k hlt
        have z2 := AH.out k hlt
        have hstep : Ok (lo k, hi k) → ∀ j, j < k + 1 → Ok (lo j, hi j) := fun h j hj => by
          by_cases e : j = k
          · rw [e]; exact h
          · exact hall.out j (by omega)
        have HS : Hid (Ok (lo k, hi k) → ∀ j, j < k + 1 → Ok (lo j, hi j)) := hstep
        clear hstep
        have hk1 : (k : Int) < n := by omega
        generalize hx : lo k = x at z1
        generalize hy : hi k = y at z2
        have HX : Hid (lo k = x) := hx
        have HY : Hid (hi k = y) := hy
        clear hx hy
        by_cases t1 : x < 0
        · go_wp2_with fail
          go_ret
          exact ⟨rfl, Below.refl _ _⟩
        by_cases t2 : 1114111 < x
        · go_wp2_with fail
          go_ret
          exact ⟨rfl, Below.refl _ _⟩
        by_cases t3 : y < 0
        · go_wp2_with fail
          go_ret
          exact ⟨rfl, Below.refl _ _⟩
        by_cases t4 : 1114111 < y
        · go_wp2_with fail
          go_ret
          exact ⟨rfl, Below.refl _ _⟩
        go_wp2_with fail
        go_round
        case rel => exact ⟨k + 1, by omega, by go_num, HS.out (by rw [HX.out, HY.out]; unfold Ok; simp only; omega)⟩
        case measure => simp [intOf]; omega
      · obtain rfl : k = n := by omega
        have hok : ∀ x ∈ rangesOf lo hi k, Ok x := by
          intro x hx
          obtain ⟨j, hj, rfl⟩ := List.mem_map.1 hx
          exact hall.out j (List.mem_range.1 hj)
        have HOK : Hid (∀ x ∈ rangesOf lo hi k, Ok x) := hok
        clear hok hall
        go_wp2_with fail
        refine (ranges_any b1 o1 c1 b2 o2 c2 k lo hi w AL.out AH.out hb1 hb2 (by omega) hpos).mono ?_
        rintro e w1 ⟨g, cap, rfl, hown, hbl1⟩
        have hcl := newClass_of (.slice (some ⟨g, 0, none⟩) k cap) (rangesOf lo hi k) w1 HOK.out (by
          have hr := newSet_row _ g cap (rangesOf lo hi k) w1 (by rw [rangesOf_length]; rw [flatTo_flat] at hown; exact hown) HOK.out (by rw [rangesOf_length]; omega)
          rwa [rangesOf_length] at hr)
        clear hown
        go_wp2_with fail
        refine hcl.mono ?_
        clear hcl
        rintro e w2 ⟨C, rfl, hC, hbl2⟩
        have hcc := classContains C _ r w2 hC
        clear hC
        go_wp2_with fail
        refine hcc.mono ?_
        clear hcc
        rintro e w3 ⟨⟨p, rfl, hp⟩, q, rfl⟩
        have HP : Hid (p = true ↔ inR (rangesOf lo hi k) r) := hp
        clear hp
        have hbl : Below w.heap.size w (w2.drewN q) := below_drewN (hbl1.trans (hbl2.mono hbl1.size)) q
        have hsm := some_any b1 o1 c1 b2 o2 c2 k lo hi r (w2.drewN q) (fun j hj => (hbl.cell hb1).trans (AL.out j hj)) (fun j hj => (hbl.cell hb2).trans (AH.out j hj)) (by omega)
        go_wp2_with fail
        refine hsm.mono ?_
        clear hsm
        rintro e w4 ⟨⟨s, rfl, hs⟩, rfl⟩
        obtain rfl : p = s := by
          have := tells_same HP.out hs (inR_rangesOf lo hi k r)
          simpa using this
        clear hs HP
        go_wp2_with fail
        go_ret
        exact ⟨by simp, hbl⟩

end Go.Proofs.Qxb6613789a.Cs
