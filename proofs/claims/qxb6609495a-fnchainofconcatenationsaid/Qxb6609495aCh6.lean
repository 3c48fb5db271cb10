import Derived.Test.Qxb6609495aCh5
namespace Go.Proofs.Qxb6609495a.Ch
open Go.RowKit
attribute [local go_sem ↓] Go.wp_at_zero Go.wp_at_succ
attribute [local go_sem] ptr_neq nil_eql

theorem leads_both {bad bad' : Nat → Bool} {n k : Nat} (h : Leads (both n bad bad') 0 n k) : Leads bad 0 n k := by
  obtain ⟨a1, a2, a3⟩ := h
  refine ⟨a1, fun j hj => ?_, fun hh => ?_⟩
  · have := a2 j hj; rw [Nat.zero_add] at this ⊢; rwa [both_lo _ _ _ _ (by omega)] at this
  · have := a3 hh; rw [Nat.zero_add] at this ⊢; rwa [both_lo _ _ _ _ (by omega)] at this
theorem heap_alloc2 (w : World) (o1 o2 : Obj) : ((w.alloc o1).alloc o2).heap[w.heap.size + 1]? = some o2 := by
  have := heap_alloc_new (w.alloc o1) o2
  simpa using this
theorem heap_alloc3 (w : World) (o1 o2 o3 : Obj) : (((w.alloc o1).alloc o2).alloc o3).heap[w.heap.size + 1 + 1]? = some o3 := by
  have := heap_alloc_new ((w.alloc o1).alloc o2) o3
  simpa using this
theorem info36 : (Try.prog.info? 36).map (fun i => (i.zero, i.size, i.bytes)) = some (some (.agg #[.string ⟨#[]⟩, .int .u64 0, .bool false]), 3, 32) := by kernel_rfl

set_option maxRecDepth 100000 in
set_option maxHeartbeats 4000000 in
theorem law2_any (wa : Option Addr) (wn wc : Nat) (a : Option Addr) (n cp : Nat) (a' : Option Addr) (n' cp' : Nat) (s : Nat → ByteArray) (c : Nat → Int) (bad : Nat → Bool) (s' : Nat → ByteArray) (c' : Nat → Int) (bad' : Nat → Bool) (w : World) (h : EntsAt w a n s c bad) (h' : EntsAt w a' n' s' c' bad') (hn1 : a = none → n = 0 ∧ cp = 0) (hn2 : a' = none → n' = 0 ∧ cp' = 0) :
    Calls Try.prog 4 #[.slice wa wn wc, .slice a n cp, .slice a' n' cp'] w fun e w' => e = .returned (.bool true) ∧ Below w.heap.size w w' := by
  obtain ⟨i0, hi0, hz0, hz1, hz2⟩ := info_parts info36
  by_cases hb1 : (65536 : Int) < wn
  · go_enter Try.func4, Try.ntmps4
    go_wp2_with fail
    refine (bytes9_any wa wn wc a n cp s c bad a' n' cp' s' c' bad' w h h').mono ?_
    rintro e w' ⟨⟨r, rfl⟩, rfl⟩
    cases r
    · go_wp2_with fail
      go_ret
      exact ⟨rfl, Below.refl _ _⟩
    · go_wp2_with fail
      go_ret
      exact ⟨rfl, Below.refl _ _⟩
  by_cases hb2 : (32768 : Int) < n
  · go_enter Try.func4, Try.ntmps4
    go_wp2_with fail
    refine (bytes9_any wa wn wc a n cp s c bad a' n' cp' s' c' bad' w h h').mono ?_
    rintro e w' ⟨⟨r, rfl⟩, rfl⟩
    cases r
    · go_wp2_with fail
      go_ret
      exact ⟨rfl, Below.refl _ _⟩
    · go_wp2_with fail
      go_ret
      exact ⟨rfl, Below.refl _ _⟩
  by_cases hb3 : (32768 : Int) < n'
  · go_enter Try.func4, Try.ntmps4
    go_wp2_with fail
    refine (bytes9_any wa wn wc a n cp s c bad a' n' cp' s' c' bad' w h h').mono ?_
    rintro e w' ⟨⟨r, rfl⟩, rfl⟩
    cases r
    · go_wp2_with fail
      go_ret
      exact ⟨rfl, Below.refl _ _⟩
    · go_wp2_with fail
      go_ret
      exact ⟨rfl, Below.refl _ _⟩
  have HA : Hid (EntsAt w a n s c bad) := h
  have HA' : Hid (EntsAt w a' n' s' c' bad') := h'
  have HN1 : Hid (a = none → n = 0 ∧ cp = 0) := hn1
  have HN2 : Hid (a' = none → n' = 0 ∧ cp' = 0) := hn2
  clear h h' hn1 hn2
  go_enter Try.func4, Try.ntmps4
  go_wp2_with fail
  refine (bytes9_any wa wn wc a n cp s c bad a' n' cp' s' c' bad' w HA.out HA'.out).mono ?_
  rintro e w' ⟨⟨r, rfl⟩, rfl⟩
  cases r
  · go_wp2_with fail
    go_ret
    exact ⟨rfl, Below.refl _ _⟩
  go_wp2_with fail
  refine (budget_any a n cp s c bad _ w HA.out (by omega)).mono ?_
  rintro e w' ⟨⟨y, rfl⟩, rfl⟩
  by_cases hy : y < 0
  · go_wp2_with fail
    go_ret
    exact ⟨rfl, Below.refl _ _⟩
  go_wp2_with fail
  refine (budget_any a' n' cp' s' c' bad' y w HA'.out (by omega)).mono ?_
  rintro e w' ⟨⟨z, rfl⟩, rfl⟩
  by_cases hz : z < 0
  · go_wp2_with fail
    go_ret
    exact ⟨rfl, Below.refl _ _⟩
  go_wp2_with (first | (at_make; refine wpList_make_own _ rfl _ _ 23 rfl w.heap.size 36 i0 _ 3 Try.underlying23 hi0 hz0 hz1 .i64 .i64 _ (n + n') rfl rfl (by omega) (by rw [hz2]; omega) (by unfold maxLen; omega) (Nat.le_refl _) ?_; intro w1 hown1 hgrow1) | (at_builtin; refine wpList_append_fits_any _ rfl (.tmp 58) (.tmp 59) 23 rfl w.heap.size 36 i0 3 Try.underlying23 hi0 hz1 w.heap.size 0 (n + n') [] rfl hown1 a n cp (ents s c bad n) rfl (ents_length s c bad n) HN1.out (ents_mem (HA.out.below ((Below.refl _ _).grown hgrow1 (Nat.le_refl _) (fun k h => by cases h)))) (ents_one s c bad n) (by omega) ?_; intro w2 hown2 hgrow2; rw [Nat.zero_add, List.nil_append] at hown2) | (at_builtin; refine wpList_append_fits_any _ rfl (.tmp 61) (.tmp 62) 23 rfl w.heap.size 36 i0 3 Try.underlying23 hi0 hz1 w.heap.size n (n + n') _ rfl hown2 a' n' cp' (ents s' c' bad' n') rfl (ents_length s' c' bad' n') HN2.out (ents_mem (HA'.out.below (((Below.refl _ _).grown hgrow1 (Nat.le_refl _) (fun k h => by cases h)).grown hgrow2 hgrow1.size (fun k h => by simp at h; omega)))) (ents_one s' c' bad' n') (by omega) ?_; intro w3 hown3 hgrow3))
  have hb1' : Below w.heap.size w w1 := (Below.refl _ _).grown hgrow1 (Nat.le_refl _) (fun k h => by cases h)
  have hb2' : Below w.heap.size w w2 := hb1'.grown hgrow2 hb1'.size (fun k h => by simp at h; omega)
  have hb3' : Below w.heap.size w w3 := hb2'.grown hgrow3 hb2'.size (fun k h => by simp at h; omega)
  have hall := ents_both hown3
  clear hown1 hown2 hown3 hgrow1 hgrow2 hgrow3 hb1' hb2'
  refine (build_any wa wn wc _ (n + n') _ _ _ _ w3 hall (by omega)).mono ?_
  clear hall
  rintro e w4 ⟨p, E, R, Rb, rfl, hE, hEs, hR, hRs, hg, hb4⟩
  have hEb := hb3'.size
  have hw4 : Below w.heap.size w w4 := hb3'.trans (hb4.mono hb3'.size)
  generalize w3.heap.size = Eb at *
  clear hb3' hb4
  have HG : Hid (Good (both n s s') (both n bad bad') p E R (n + n')) := hg
  clear hg
  -- the three logs
  by_cases hm : n' = 0
  · subst hm
    go_wp2_with fail
    have hE5 : (((w4.alloc (.cells #[.slice wa wn wc, .slice (some ⟨Eb, 0, none⟩) (n) (n)] 32)).alloc (.cells #[.slice wa wn wc, .slice (some ⟨Eb, 0, none⟩) n (n)] 32)).alloc (.cells #[.slice wa wn wc, .slice (some ⟨Eb, 0, none⟩) 0 0] 32)).heap[Eb]? = some (.cells E 42) := alloc_heap (alloc_heap (alloc_heap hE _) _) _
    have hR5 : (((w4.alloc (.cells #[.slice wa wn wc, .slice (some ⟨Eb, 0, none⟩) (n) (n)] 32)).alloc (.cells #[.slice wa wn wc, .slice (some ⟨Eb, 0, none⟩) n (n)] 32)).alloc (.cells #[.slice wa wn wc, .slice (some ⟨Eb, 0, none⟩) 0 0] 32)).heap[Rb]? = some (.cells R 37) := alloc_heap (alloc_heap (alloc_heap hR _) _) _
    have hL2 : (((w4.alloc (.cells #[.slice wa wn wc, .slice (some ⟨Eb, 0, none⟩) (n) (n)] 32)).alloc (.cells #[.slice wa wn wc, .slice (some ⟨Eb, 0, none⟩) n (n)] 32)).alloc (.cells #[.slice wa wn wc, .slice (some ⟨Eb, 0, none⟩) 0 0] 32)).heap[w4.heap.size + 1]? = some (.cells #[.slice wa wn wc, .slice (some ⟨Eb, 0, none⟩) n (n)] 32) := alloc_heap (heap_alloc2 w4 _ _) _
    have hL3 : (((w4.alloc (.cells #[.slice wa wn wc, .slice (some ⟨Eb, 0, none⟩) (n) (n)] 32)).alloc (.cells #[.slice wa wn wc, .slice (some ⟨Eb, 0, none⟩) n (n)] 32)).alloc (.cells #[.slice wa wn wc, .slice (some ⟨Eb, 0, none⟩) 0 0] 32)).heap[w4.heap.size + 1 + 1]? = some (.cells #[.slice wa wn wc, .slice (some ⟨Eb, 0, none⟩) 0 0] 32) := heap_alloc3 w4 _ _ _
    have hw5 : Below w.heap.size w (((w4.alloc (.cells #[.slice wa wn wc, .slice (some ⟨Eb, 0, none⟩) (n) (n)] 32)).alloc (.cells #[.slice wa wn wc, .slice (some ⟨Eb, 0, none⟩) n (n)] 32)).alloc (.cells #[.slice wa wn wc, .slice (some ⟨Eb, 0, none⟩) 0 0] 32)) := ((hw4.alloc hw4.size _).alloc (by have := hw4.size; simp; omega) _).alloc (by have := hw4.size; simp; omega) _
    clear hE hR hw4
    generalize (((w4.alloc (.cells #[.slice wa wn wc, .slice (some ⟨Eb, 0, none⟩) (n) (n)] 32)).alloc (.cells #[.slice wa wn wc, .slice (some ⟨Eb, 0, none⟩) n (n)] 32)).alloc (.cells #[.slice wa wn wc, .slice (some ⟨Eb, 0, none⟩) 0 0] 32)) = w5 at *
    generalize w4.heap.size + 1 + 1 = B3 at *
    generalize w4.heap.size + 1 = B2 at *
    refine (chain_any wa wn wc (some ⟨Eb, 0, none⟩) Eb (n + 0) 0 (n) (n) _ _ p E R w5 hE5 HG.out (by omega) (fun _ => by simp) (by omega)).mono ?_
    rintro e w6 ⟨v6, rfl, k6, hl6, hc6, hb6⟩
    have l0 : w6.cell? ⟨B2, 0, none⟩ = some (.slice wa wn wc) := by rw [cell_of_row w6 B2 0 _ _ (0, 0) ((hb6.block B2 (block_lt hL2)).trans hL2)]; rfl
    have l1 : w6.cell? ⟨B2, 1, none⟩ = some (.slice (some ⟨Eb, 0, none⟩) n (n)) := by rw [cell_of_row w6 B2 1 _ _ (0, 0) ((hb6.block B2 (block_lt hL2)).trans hL2)]; rfl
    have hB2 := cell_lt l0
    go_wp2_with fail
    refine (chain_any wa wn wc (some ⟨Eb, 0, none⟩) Eb (n + 0) 0 n (n) _ _ p E R w6 ((hb6.block Eb (block_lt hE5)).trans hE5) HG.out (by omega) (fun _ => by simp) (by omega)).mono ?_
    rintro e w7 ⟨v7, rfl, k7, hl7, hc7, hb7⟩
    have hb57 := hb6.trans (hb7.mono hb6.size)
    have r0 : w7.cell? ⟨B3, 0, none⟩ = some (.slice wa wn wc) := by rw [cell_of_row w7 B3 0 _ _ (0, 0) ((hb57.block B3 (block_lt hL3)).trans hL3)]; rfl
    have r1 : w7.cell? ⟨B3, 1, none⟩ = some (.slice (some ⟨Eb, 0, none⟩) 0 0) := by rw [cell_of_row w7 B3 1 _ _ (0, 0) ((hb57.block B3 (block_lt hL3)).trans hL3)]; rfl
    have hB3 := cell_lt r0
    clear l0 l1 hB2
    go_wp2_with fail
    refine (chain_any wa wn wc (some ⟨Eb, 0, none⟩) Eb (n + 0) n 0 0 _ _ p E R w7 ((hb57.block Eb (block_lt hE5)).trans hE5) HG.out (by omega) (fun hh => by first | rfl | omega) (by omega)).mono ?_
    rintro e w8 ⟨v8, rfl, k8, hl8, hc8, hb8⟩
    have hb58 := hb57.trans (hb8.mono hb57.size)
    have hw8 : Below w.heap.size w w8 := hw5.trans (hb58.mono hw5.size)
    have hR8 := (hb58.block Rb (block_lt hR5)).trans hR5
    have hc6' := (hc6.below hb7).below hb8
    have hc7' := hc7.below hb8
    have hjoin : k6 = if k7 = n then n + k8 else k7 := leads_unique hl6 (leads_join hl7 hl8)
    obtain ⟨x6, cap6, rfl, hf6⟩ := chain_form hc6'
    obtain ⟨x7, cap7, rfl, hf7⟩ := chain_form hc7'
    obtain ⟨x8, cap8, rfl, hf8⟩ := chain_form hc8
    have HF6 : Hid (∀ i, i < k6 → ∃ g, x6 = some ⟨g, 0, none⟩ ∧ w8.cell? ⟨g, i, none⟩ = some (.pointer (some ⟨p (0 + i), 0, none⟩))) := hf6
    have HF7 : Hid (∀ i, i < k7 → ∃ g, x7 = some ⟨g, 0, none⟩ ∧ w8.cell? ⟨g, i, none⟩ = some (.pointer (some ⟨p (0 + i), 0, none⟩))) := hf7
    have HF8 : Hid (∀ i, i < k8 → ∃ g, x8 = some ⟨g, 0, none⟩ ∧ w8.cell? ⟨g, i, none⟩ = some (.pointer (some ⟨p (n + i), 0, none⟩))) := hf8
    have HL7 : Hid (Leads (both n bad bad') 0 n k7) := hl7
    have hk7 := hl7.1
    have hk8 := hl8.1
    have HJ : Hid (k6 = if k7 = n then n + k8 else k7) := hjoin
    have HA8 : Hid (EntsAt w8 a n s c bad) := HA.out.below hw8
    clear r0 r1 hB3 hc6 hc7 hc8 hc6' hc7' hf6 hf7 hf8 hl6 hl7 hl8 hb6 hb7 hb8 hb57 hb58 hE5 hR5 hL2 hL3 hw5 hjoin HN1 HN2 HA HA'
    go_wp2_with fail
    go_loop [18, 19] (fun l i => ∃ t : Nat, t ≤ n ∧ i = .int .i64 t ∧ l = .int .i64 n ∧ Hid (∀ j, j < t → bad j = false)) (fun _ i => n - (intOf i).toNat)
    case atStart => exact ⟨0, Nat.zero_le _, rfl, rfl, fun j hj => by omega⟩
    case round =>
      obtain ⟨t, ht, rfl, rfl, hgood⟩ := hrel
      have hun : Leads bad 0 n t → k7 = t := fun hh => leads_unique (leads_both HL7.out) hh
      by_cases hlt : t < n
      · obtain ⟨b, o, rfl, z⟩ := ent_at HA8.out t hlt
        have ht1 : (t : Int) < n := by omega
        cases hbad : bad t with
        | false =>
          rw [hbad] at z
          have HS : Hid (∀ j, j < t + 1 → bad j = false) := fun j hj => by
            by_cases e : j = t
            · rw [e]; exact hbad
            · exact hgood.out j (by omega)
          clear hbad hun
          go_wp2_with fail
          go_round
          case rel => exact ⟨t + 1, by omega, by go_num, rfl, HS.out⟩
          case measure => simp [intOf]; omega
        | true =>
          rw [hbad] at z
          obtain rfl := hun ⟨ht, fun j hj => by rw [Nat.zero_add]; exact hgood.out j hj, fun _ => by rw [Nat.zero_add]; exact hbad⟩
          obtain rfl : k6 = k7 := by rw [HJ.out, if_neg (by omega)]
          have hne7 : ¬ (k6 : Int) = n := by omega
          have hne8 : ¬ k6 = n := by omega
          clear hbad hun HJ
          go_wp2_with fail
          go_loopw [21] (fun i wr => ∃ j2 : Nat, j2 ≤ k6 ∧ i = .int .i64 j2 ∧ ∃ q, wr = w8.drewN q) (fun i _ => k6 - (intOf i).toNat)
          case atStart => exact ⟨0, Nat.zero_le _, rfl, 0, rfl⟩
          case round =>
            obtain ⟨j2, hj, rfl, q, rfl⟩ := hrel
            by_cases hjl : j2 < k6
            · obtain ⟨g6, rfl, c6⟩ := HF6.out j2 (by omega)
              obtain ⟨g7, rfl, c7⟩ := HF7.out j2 (by omega)
              rw [Nat.zero_add] at c6 c7
              have hj1 : (j2 : Int) < k6 := by omega
              have hj2 : (j2 : Int) < k6 := by omega
              generalize p j2 = pj at *
              go_wp2_with fail
              go_quiet (fail)
              go_wp2_with fail
              go_roundw
              case rel => exact ⟨j2 + 1, by omega, by go_num, _, rfl⟩
              case measure => simp [intOf]; omega
            · obtain rfl : k6 = j2 := by omega
              go_wp2_with fail
              go_loopw [22] (fun i wr => ∃ j2 : Nat, j2 ≤ k6 ∧ i = .int .i64 j2 ∧ ∃ q, wr = w8.drewN q) (fun i _ => k6 - (intOf i).toNat)
              case atStart => exact ⟨0, Nat.zero_le _, rfl, q, rfl⟩
              case round =>
                obtain ⟨j3, hj3, rfl, q3, rfl⟩ := hrel
                by_cases hj3l : j3 < k6
                · obtain ⟨g7, rfl, c7⟩ := HF7.out j3 (by omega)
                  rw [Nat.zero_add] at c7
                  obtain ⟨r, ev, _, _, _, _, b1, _⟩ := HG.out j3 (by omega)
                  have z3 : w8.cell? ⟨Rb, j3, none⟩ = some (.pointer (some ⟨p j3, 0, none⟩)) := by rw [cell_of_row w8 Rb _ _ _ (0, 0) hR8]; exact (b1 (by rw [both_lo _ _ _ _ (by omega)]; exact hgood.out j3 (by omega))).2.2
                  clear b1
                  have hj1 : (j3 : Int) < k6 := by omega
                  have hj2 : (j3 : Int) < n := by omega
                  generalize p j3 = pj at *
                  go_wp2_with fail
                  go_quiet (fail)
                  go_wp2_with fail
                  go_roundw
                  case rel => exact ⟨j3 + 1, by omega, by go_num, _, rfl⟩
                  case measure => simp [intOf]; omega
                · obtain rfl : k6 = j3 := by omega
                  go_wp2_with fail
                  go_ret
                  exact ⟨rfl, hw8.trans ⟨rfl, rfl, rfl, Nat.le_refl _, fun _ _ => rfl⟩⟩
      · obtain rfl : t = n := by omega
        obtain rfl := hun ⟨Nat.le_refl _, fun j hj => by rw [Nat.zero_add]; exact hgood.out j hj, fun hh => by omega⟩
        obtain rfl : k6 = k7 + k8 := by rw [HJ.out, if_pos rfl]
        clear hun HJ
        go_wp2_with fail
        go_loopw [21] (fun i wr => ∃ j2 : Nat, j2 ≤ (k7 + k8) ∧ i = .int .i64 j2 ∧ ∃ q, wr = w8.drewN q) (fun i _ => (k7 + k8) - (intOf i).toNat)
        case atStart => exact ⟨0, Nat.zero_le _, rfl, 0, rfl⟩
        case round =>
          obtain ⟨j2, hj, rfl, q, rfl⟩ := hrel
          by_cases hjl : j2 < (k7 + k8)
          · by_cases hjn : j2 < k7
            · obtain ⟨g6, rfl, c6⟩ := HF6.out j2 (by omega)
              obtain ⟨g7, rfl, c7⟩ := HF7.out j2 (by omega)
              rw [Nat.zero_add] at c6 c7
              have hj1 : (j2 : Int) < ((k7 : Int) + k8) := by omega
              have hj2 : (j2 : Int) < k7 := by omega
              generalize p j2 = pj at *
              go_wp2_with fail
              go_quiet (fail)
              go_wp2_with fail
              go_roundw
              case rel => exact ⟨j2 + 1, by omega, by go_num, _, rfl⟩
              case measure => simp [intOf]; omega
            · obtain ⟨j, rfl⟩ : ∃ j, j2 = k7 + j := ⟨j2 - k7, by omega⟩
              obtain ⟨g6, rfl, c6⟩ := HF6.out (k7 + j) (by omega)
              obtain ⟨g8, rfl, c8⟩ := HF8.out j (by omega)
              rw [Nat.zero_add] at c6
              have hj1 : (j : Int) < k8 := by omega
              have hj3 : ¬ ((k7 : Int) + j) < k7 := by omega
              have hj0 : (0 : Int) ≤ j := by omega
              have hj4 : (j : Int) ≤ 70000 := by omega
              generalize p (k7 + j) = pj at *
              go_wp2_with fail
              go_quiet (fail)
              go_wp2_with fail
              go_roundw
              case rel => exact ⟨k7 + j + 1, by omega, by go_num, _, rfl⟩
              case measure => simp [intOf]; omega
          · obtain rfl : j2 = (k7 + k8) := by omega
            go_wp2_with fail
            go_loopw [22] (fun i wr => ∃ j2 : Nat, j2 ≤ k7 ∧ i = .int .i64 j2 ∧ ∃ q, wr = w8.drewN q) (fun i _ => k7 - (intOf i).toNat)
            case atStart => exact ⟨0, Nat.zero_le _, rfl, q, rfl⟩
            case round =>
              obtain ⟨j3, hj3, rfl, q3, rfl⟩ := hrel
              by_cases hj3l : j3 < k7
              · obtain ⟨g7, rfl, c7⟩ := HF7.out j3 (by omega)
                rw [Nat.zero_add] at c7
                obtain ⟨r, ev, _, _, _, _, b1, _⟩ := HG.out j3 (by omega)
                have z3 : w8.cell? ⟨Rb, j3, none⟩ = some (.pointer (some ⟨p j3, 0, none⟩)) := by rw [cell_of_row w8 Rb _ _ _ (0, 0) hR8]; exact (b1 (by rw [both_lo _ _ _ _ (by omega)]; exact hgood.out j3 (by omega))).2.2
                clear b1
                have hj1 : (j3 : Int) < k7 := by omega
                have hj2 : (j3 : Int) < (k7 : Int) := by omega
                generalize p j3 = pj at *
                go_wp2_with fail
                go_quiet (fail)
                go_wp2_with fail
                go_roundw
                case rel => exact ⟨j3 + 1, by omega, by go_num, _, rfl⟩
                case measure => simp [intOf]; omega
              · obtain rfl : k7 = j3 := by omega
                go_wp2_with fail
                go_ret
                exact ⟨rfl, hw8.trans ⟨rfl, rfl, rfl, Nat.le_refl _, fun _ _ => rfl⟩⟩
  · have hne : ¬ n + n' = n := by omega
    go_wp2_with fail
    have hE5 : (((w4.alloc (.cells #[.slice wa wn wc, .slice (some ⟨Eb, 0, none⟩) (n + n') (n + n')] 32)).alloc (.cells #[.slice wa wn wc, .slice (some ⟨Eb, 0, none⟩) n (n + n')] 32)).alloc (.cells #[.slice wa wn wc, .slice (some ⟨Eb, n * 4, none⟩) n' n'] 32)).heap[Eb]? = some (.cells E 42) := alloc_heap (alloc_heap (alloc_heap hE _) _) _
    have hR5 : (((w4.alloc (.cells #[.slice wa wn wc, .slice (some ⟨Eb, 0, none⟩) (n + n') (n + n')] 32)).alloc (.cells #[.slice wa wn wc, .slice (some ⟨Eb, 0, none⟩) n (n + n')] 32)).alloc (.cells #[.slice wa wn wc, .slice (some ⟨Eb, n * 4, none⟩) n' n'] 32)).heap[Rb]? = some (.cells R 37) := alloc_heap (alloc_heap (alloc_heap hR _) _) _
    have hL2 : (((w4.alloc (.cells #[.slice wa wn wc, .slice (some ⟨Eb, 0, none⟩) (n + n') (n + n')] 32)).alloc (.cells #[.slice wa wn wc, .slice (some ⟨Eb, 0, none⟩) n (n + n')] 32)).alloc (.cells #[.slice wa wn wc, .slice (some ⟨Eb, n * 4, none⟩) n' n'] 32)).heap[w4.heap.size + 1]? = some (.cells #[.slice wa wn wc, .slice (some ⟨Eb, 0, none⟩) n (n + n')] 32) := alloc_heap (heap_alloc2 w4 _ _) _
    have hL3 : (((w4.alloc (.cells #[.slice wa wn wc, .slice (some ⟨Eb, 0, none⟩) (n + n') (n + n')] 32)).alloc (.cells #[.slice wa wn wc, .slice (some ⟨Eb, 0, none⟩) n (n + n')] 32)).alloc (.cells #[.slice wa wn wc, .slice (some ⟨Eb, n * 4, none⟩) n' n'] 32)).heap[w4.heap.size + 1 + 1]? = some (.cells #[.slice wa wn wc, .slice (some ⟨Eb, n * 4, none⟩) n' n'] 32) := heap_alloc3 w4 _ _ _
    have hw5 : Below w.heap.size w (((w4.alloc (.cells #[.slice wa wn wc, .slice (some ⟨Eb, 0, none⟩) (n + n') (n + n')] 32)).alloc (.cells #[.slice wa wn wc, .slice (some ⟨Eb, 0, none⟩) n (n + n')] 32)).alloc (.cells #[.slice wa wn wc, .slice (some ⟨Eb, n * 4, none⟩) n' n'] 32)) := ((hw4.alloc hw4.size _).alloc (by have := hw4.size; simp; omega) _).alloc (by have := hw4.size; simp; omega) _
    clear hE hR hw4
    generalize (((w4.alloc (.cells #[.slice wa wn wc, .slice (some ⟨Eb, 0, none⟩) (n + n') (n + n')] 32)).alloc (.cells #[.slice wa wn wc, .slice (some ⟨Eb, 0, none⟩) n (n + n')] 32)).alloc (.cells #[.slice wa wn wc, .slice (some ⟨Eb, n * 4, none⟩) n' n'] 32)) = w5 at *
    generalize w4.heap.size + 1 + 1 = B3 at *
    generalize w4.heap.size + 1 = B2 at *
    refine (chain_any wa wn wc (some ⟨Eb, 0, none⟩) Eb (n + n') 0 (n + n') (n + n') _ _ p E R w5 hE5 HG.out (by omega) (fun _ => by simp) (by omega)).mono ?_
    rintro e w6 ⟨v6, rfl, k6, hl6, hc6, hb6⟩
    have l0 : w6.cell? ⟨B2, 0, none⟩ = some (.slice wa wn wc) := by rw [cell_of_row w6 B2 0 _ _ (0, 0) ((hb6.block B2 (block_lt hL2)).trans hL2)]; rfl
    have l1 : w6.cell? ⟨B2, 1, none⟩ = some (.slice (some ⟨Eb, 0, none⟩) n (n + n')) := by rw [cell_of_row w6 B2 1 _ _ (0, 0) ((hb6.block B2 (block_lt hL2)).trans hL2)]; rfl
    have hB2 := cell_lt l0
    go_wp2_with fail
    refine (chain_any wa wn wc (some ⟨Eb, 0, none⟩) Eb (n + n') 0 n (n + n') _ _ p E R w6 ((hb6.block Eb (block_lt hE5)).trans hE5) HG.out (by omega) (fun _ => by simp) (by omega)).mono ?_
    rintro e w7 ⟨v7, rfl, k7, hl7, hc7, hb7⟩
    have hb57 := hb6.trans (hb7.mono hb6.size)
    have r0 : w7.cell? ⟨B3, 0, none⟩ = some (.slice wa wn wc) := by rw [cell_of_row w7 B3 0 _ _ (0, 0) ((hb57.block B3 (block_lt hL3)).trans hL3)]; rfl
    have r1 : w7.cell? ⟨B3, 1, none⟩ = some (.slice (some ⟨Eb, n * 4, none⟩) n' n') := by rw [cell_of_row w7 B3 1 _ _ (0, 0) ((hb57.block B3 (block_lt hL3)).trans hL3)]; rfl
    have hB3 := cell_lt r0
    clear l0 l1 hB2
    go_wp2_with fail
    refine (chain_any wa wn wc (some ⟨Eb, n * 4, none⟩) Eb (n + n') n n' n' _ _ p E R w7 ((hb57.block Eb (block_lt hE5)).trans hE5) HG.out (by omega) (fun hh => by first | rfl | omega) (by omega)).mono ?_
    rintro e w8 ⟨v8, rfl, k8, hl8, hc8, hb8⟩
    have hb58 := hb57.trans (hb8.mono hb57.size)
    have hw8 : Below w.heap.size w w8 := hw5.trans (hb58.mono hw5.size)
    have hR8 := (hb58.block Rb (block_lt hR5)).trans hR5
    have hc6' := (hc6.below hb7).below hb8
    have hc7' := hc7.below hb8
    have hjoin : k6 = if k7 = n then n + k8 else k7 := leads_unique hl6 (leads_join hl7 hl8)
    obtain ⟨x6, cap6, rfl, hf6⟩ := chain_form hc6'
    obtain ⟨x7, cap7, rfl, hf7⟩ := chain_form hc7'
    obtain ⟨x8, cap8, rfl, hf8⟩ := chain_form hc8
    have HF6 : Hid (∀ i, i < k6 → ∃ g, x6 = some ⟨g, 0, none⟩ ∧ w8.cell? ⟨g, i, none⟩ = some (.pointer (some ⟨p (0 + i), 0, none⟩))) := hf6
    have HF7 : Hid (∀ i, i < k7 → ∃ g, x7 = some ⟨g, 0, none⟩ ∧ w8.cell? ⟨g, i, none⟩ = some (.pointer (some ⟨p (0 + i), 0, none⟩))) := hf7
    have HF8 : Hid (∀ i, i < k8 → ∃ g, x8 = some ⟨g, 0, none⟩ ∧ w8.cell? ⟨g, i, none⟩ = some (.pointer (some ⟨p (n + i), 0, none⟩))) := hf8
    have HL7 : Hid (Leads (both n bad bad') 0 n k7) := hl7
    have hk7 := hl7.1
    have hk8 := hl8.1
    have HJ : Hid (k6 = if k7 = n then n + k8 else k7) := hjoin
    have HA8 : Hid (EntsAt w8 a n s c bad) := HA.out.below hw8
    clear r0 r1 hB3 hc6 hc7 hc8 hc6' hc7' hf6 hf7 hf8 hl6 hl7 hl8 hb6 hb7 hb8 hb57 hb58 hE5 hR5 hL2 hL3 hw5 hjoin HN1 HN2 HA HA'
    go_wp2_with fail
    go_loop [18, 19] (fun l i => ∃ t : Nat, t ≤ n ∧ i = .int .i64 t ∧ l = .int .i64 n ∧ Hid (∀ j, j < t → bad j = false)) (fun _ i => n - (intOf i).toNat)
    case atStart => exact ⟨0, Nat.zero_le _, rfl, rfl, fun j hj => by omega⟩
    case round =>
      obtain ⟨t, ht, rfl, rfl, hgood⟩ := hrel
      have hun : Leads bad 0 n t → k7 = t := fun hh => leads_unique (leads_both HL7.out) hh
      by_cases hlt : t < n
      · obtain ⟨b, o, rfl, z⟩ := ent_at HA8.out t hlt
        have ht1 : (t : Int) < n := by omega
        cases hbad : bad t with
        | false =>
          rw [hbad] at z
          have HS : Hid (∀ j, j < t + 1 → bad j = false) := fun j hj => by
            by_cases e : j = t
            · rw [e]; exact hbad
            · exact hgood.out j (by omega)
          clear hbad hun
          go_wp2_with fail
          go_round
          case rel => exact ⟨t + 1, by omega, by go_num, rfl, HS.out⟩
          case measure => simp [intOf]; omega
        | true =>
          rw [hbad] at z
          obtain rfl := hun ⟨ht, fun j hj => by rw [Nat.zero_add]; exact hgood.out j hj, fun _ => by rw [Nat.zero_add]; exact hbad⟩
          obtain rfl : k6 = k7 := by rw [HJ.out, if_neg (by omega)]
          have hne7 : ¬ (k6 : Int) = n := by omega
          have hne8 : ¬ k6 = n := by omega
          clear hbad hun HJ
          go_wp2_with fail
          go_loopw [21] (fun i wr => ∃ j2 : Nat, j2 ≤ k6 ∧ i = .int .i64 j2 ∧ ∃ q, wr = w8.drewN q) (fun i _ => k6 - (intOf i).toNat)
          case atStart => exact ⟨0, Nat.zero_le _, rfl, 0, rfl⟩
          case round =>
            obtain ⟨j2, hj, rfl, q, rfl⟩ := hrel
            by_cases hjl : j2 < k6
            · obtain ⟨g6, rfl, c6⟩ := HF6.out j2 (by omega)
              obtain ⟨g7, rfl, c7⟩ := HF7.out j2 (by omega)
              rw [Nat.zero_add] at c6 c7
              have hj1 : (j2 : Int) < k6 := by omega
              have hj2 : (j2 : Int) < k6 := by omega
              generalize p j2 = pj at *
              go_wp2_with fail
              go_quiet (fail)
              go_wp2_with fail
              go_roundw
              case rel => exact ⟨j2 + 1, by omega, by go_num, _, rfl⟩
              case measure => simp [intOf]; omega
            · obtain rfl : k6 = j2 := by omega
              go_wp2_with fail
              go_loopw [22] (fun i wr => ∃ j2 : Nat, j2 ≤ k6 ∧ i = .int .i64 j2 ∧ ∃ q, wr = w8.drewN q) (fun i _ => k6 - (intOf i).toNat)
              case atStart => exact ⟨0, Nat.zero_le _, rfl, q, rfl⟩
              case round =>
                obtain ⟨j3, hj3, rfl, q3, rfl⟩ := hrel
                by_cases hj3l : j3 < k6
                · obtain ⟨g7, rfl, c7⟩ := HF7.out j3 (by omega)
                  rw [Nat.zero_add] at c7
                  obtain ⟨r, ev, _, _, _, _, b1, _⟩ := HG.out j3 (by omega)
                  have z3 : w8.cell? ⟨Rb, j3, none⟩ = some (.pointer (some ⟨p j3, 0, none⟩)) := by rw [cell_of_row w8 Rb _ _ _ (0, 0) hR8]; exact (b1 (by rw [both_lo _ _ _ _ (by omega)]; exact hgood.out j3 (by omega))).2.2
                  clear b1
                  have hj1 : (j3 : Int) < k6 := by omega
                  have hj2 : (j3 : Int) < n := by omega
                  generalize p j3 = pj at *
                  go_wp2_with fail
                  go_quiet (fail)
                  go_wp2_with fail
                  go_roundw
                  case rel => exact ⟨j3 + 1, by omega, by go_num, _, rfl⟩
                  case measure => simp [intOf]; omega
                · obtain rfl : k6 = j3 := by omega
                  go_wp2_with fail
                  go_ret
                  exact ⟨rfl, hw8.trans ⟨rfl, rfl, rfl, Nat.le_refl _, fun _ _ => rfl⟩⟩
      · obtain rfl : t = n := by omega
        obtain rfl := hun ⟨Nat.le_refl _, fun j hj => by rw [Nat.zero_add]; exact hgood.out j hj, fun hh => by omega⟩
        obtain rfl : k6 = k7 + k8 := by rw [HJ.out, if_pos rfl]
        clear hun HJ
        go_wp2_with fail
        go_loopw [21] (fun i wr => ∃ j2 : Nat, j2 ≤ (k7 + k8) ∧ i = .int .i64 j2 ∧ ∃ q, wr = w8.drewN q) (fun i _ => (k7 + k8) - (intOf i).toNat)
        case atStart => exact ⟨0, Nat.zero_le _, rfl, 0, rfl⟩
        case round =>
          obtain ⟨j2, hj, rfl, q, rfl⟩ := hrel
          by_cases hjl : j2 < (k7 + k8)
          · by_cases hjn : j2 < k7
            · obtain ⟨g6, rfl, c6⟩ := HF6.out j2 (by omega)
              obtain ⟨g7, rfl, c7⟩ := HF7.out j2 (by omega)
              rw [Nat.zero_add] at c6 c7
              have hj1 : (j2 : Int) < ((k7 : Int) + k8) := by omega
              have hj2 : (j2 : Int) < k7 := by omega
              generalize p j2 = pj at *
              go_wp2_with fail
              go_quiet (fail)
              go_wp2_with fail
              go_roundw
              case rel => exact ⟨j2 + 1, by omega, by go_num, _, rfl⟩
              case measure => simp [intOf]; omega
            · obtain ⟨j, rfl⟩ : ∃ j, j2 = k7 + j := ⟨j2 - k7, by omega⟩
              obtain ⟨g6, rfl, c6⟩ := HF6.out (k7 + j) (by omega)
              obtain ⟨g8, rfl, c8⟩ := HF8.out j (by omega)
              rw [Nat.zero_add] at c6
              have hj1 : (j : Int) < k8 := by omega
              have hj3 : ¬ ((k7 : Int) + j) < k7 := by omega
              have hj0 : (0 : Int) ≤ j := by omega
              have hj4 : (j : Int) ≤ 70000 := by omega
              generalize p (k7 + j) = pj at *
              go_wp2_with fail
              go_quiet (fail)
              go_wp2_with fail
              go_roundw
              case rel => exact ⟨k7 + j + 1, by omega, by go_num, _, rfl⟩
              case measure => simp [intOf]; omega
          · obtain rfl : j2 = (k7 + k8) := by omega
            go_wp2_with fail
            go_loopw [22] (fun i wr => ∃ j2 : Nat, j2 ≤ k7 ∧ i = .int .i64 j2 ∧ ∃ q, wr = w8.drewN q) (fun i _ => k7 - (intOf i).toNat)
            case atStart => exact ⟨0, Nat.zero_le _, rfl, q, rfl⟩
            case round =>
              obtain ⟨j3, hj3, rfl, q3, rfl⟩ := hrel
              by_cases hj3l : j3 < k7
              · obtain ⟨g7, rfl, c7⟩ := HF7.out j3 (by omega)
                rw [Nat.zero_add] at c7
                obtain ⟨r, ev, _, _, _, _, b1, _⟩ := HG.out j3 (by omega)
                have z3 : w8.cell? ⟨Rb, j3, none⟩ = some (.pointer (some ⟨p j3, 0, none⟩)) := by rw [cell_of_row w8 Rb _ _ _ (0, 0) hR8]; exact (b1 (by rw [both_lo _ _ _ _ (by omega)]; exact hgood.out j3 (by omega))).2.2
                clear b1
                have hj1 : (j3 : Int) < k7 := by omega
                have hj2 : (j3 : Int) < (k7 : Int) := by omega
                generalize p j3 = pj at *
                go_wp2_with fail
                go_quiet (fail)
                go_wp2_with fail
                go_roundw
                case rel => exact ⟨j3 + 1, by omega, by go_num, _, rfl⟩
                case measure => simp [intOf]; omega
              · obtain rfl : k7 = j3 := by omega
                go_wp2_with fail
                go_ret
                exact ⟨rfl, hw8.trans ⟨rfl, rfl, rfl, Nat.le_refl _, fun _ _ => rfl⟩⟩

end Go.Proofs.Qxb6609495a.Ch
