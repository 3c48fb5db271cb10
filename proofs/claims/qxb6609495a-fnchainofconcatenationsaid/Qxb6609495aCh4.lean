import Derived.Test.Qxb6609495aCh3
namespace Go.Proofs.Qxb6609495a.Ch
open Go.RowKit
attribute [local go_sem ↓] Go.wp_at_zero Go.wp_at_succ

theorem ptr_neq (w : World) (a : Addr) : (binOp .neq 37 (.pointer (some a)) (.pointer (some a))).run Try.prog w = .ok (.bool false) w := by
  have h : ∀ d, (Op.equalIn (d + 1) 37 (.pointer (some a)) (.pointer (some a))).run Try.prog w = .ok true w := fun d => by
    simp [Op.equalIn, run_underlying Try.underlying37, Try.sizeOf46, sameAddr]
  have h' : (Op.equal 37 (.pointer (some a)) (.pointer (some a))).run Try.prog w = .ok true w := h 9999
  simp only [binOp]
  simp [h']
theorem nil_eql (w : World) (a : Option Addr) (l c : Nat) : (binOp .eql 27 (.slice a l c) (.slice none 0 0)).run Try.prog w = .ok (.bool a.isNone) w := by
  have h' : (Op.equal 27 (.slice a l c) (.slice none 0 0)).run Try.prog w = .ok a.isNone w := run_equal_slice_nil w 27 37 a l c Try.underlying27
  simp only [binOp]
  simp [h']
attribute [local go_sem] ptr_neq nil_eql

/-- The cells of the i-th entry that came in. -/
theorem ent_at {w : World} {a : Option Addr} {n : Nat} {s : Nat → ByteArray} {c : Nat → Int} {bad : Nat → Bool} (h : EntsAt w a n s c bad) (i : Nat) (hi : i < n) : ∃ b o, a = some ⟨b, o, none⟩ ∧ w.cell? ⟨b, o + i * 3 + 2, none⟩ = some (.bool (bad i)) := by
  rcases h with h | ⟨b, o, rfl, hc⟩
  · omega
  · exact ⟨b, o, rfl, (hc i hi).2.2⟩

set_option maxRecDepth 100000 in
set_option maxHeartbeats 2000000 in
theorem law1_any (wa : Option Addr) (wn wc : Nat) (a : Option Addr) (n cp : Nat) (s : Nat → ByteArray) (c : Nat → Int) (bad : Nat → Bool) (w : World) (h : EntsAt w a n s c bad) :
    Calls Try.prog 3 #[.slice wa wn wc, .slice a n cp] w fun e w' => e = .returned (.bool true) ∧ Below w.heap.size w w' := by
  by_cases hb1 : (65536 : Int) < wn
  · go_enter Try.func3, Try.ntmps3
    go_wp2_with fail
    refine (bytes5_any wa wn wc a n cp s c bad w h).mono ?_
    rintro e w' ⟨⟨r, rfl⟩, rfl⟩
    cases r
    · go_wp2_with fail
      go_ret
      exact ⟨rfl, Below.refl _ _⟩
    · go_wp2_with fail
      go_ret
      exact ⟨rfl, Below.refl _ _⟩
  by_cases hb2 : (32768 : Int) < n
  · go_enter Try.func3, Try.ntmps3
    go_wp2_with fail
    refine (bytes5_any wa wn wc a n cp s c bad w h).mono ?_
    rintro e w' ⟨⟨r, rfl⟩, rfl⟩
    cases r
    · go_wp2_with fail
      go_ret
      exact ⟨rfl, Below.refl _ _⟩
    · go_wp2_with fail
      go_ret
      exact ⟨rfl, Below.refl _ _⟩
  have HD : Hid (EntsAt w a n s c bad) := h
  clear h
  go_enter Try.func3, Try.ntmps3
  go_wp2_with fail
  refine (bytes5_any wa wn wc a n cp s c bad w HD.out).mono ?_
  rintro e w' ⟨⟨r, rfl⟩, rfl⟩
  cases r
  · go_wp2_with fail
    go_ret
    exact ⟨rfl, Below.refl _ _⟩
  go_wp2_with fail
  refine (budget_any a n cp s c bad _ w HD.out (by omega)).mono ?_
  rintro e w' ⟨⟨y, rfl⟩, rfl⟩
  by_cases hy : y < 0
  · go_wp2_with fail
    go_ret
    exact ⟨rfl, Below.refl _ _⟩
  go_wp2_with fail
  refine (build_any wa wn wc a n cp s c bad w HD.out (by omega)).mono ?_
  rintro e w1 ⟨p, E, R, Rb, rfl, hE, hEs, hR, hRs, hg, hb⟩
  have hch := chain_any wa wn wc (some ⟨w.heap.size, 0, none⟩) w.heap.size n 0 n n s bad p E R (w1.alloc (.cells #[.slice wa wn wc, .slice (some ⟨w.heap.size, 0, none⟩) n n] 32)) (alloc_heap hE _) hg (by omega) (fun _ => by simp) (by omega)
  have hb' := hb.alloc hb.size (.cells #[.slice wa wn wc, .slice (some ⟨w.heap.size, 0, none⟩) n n] 32)
  have HR : Hid ((w1.alloc (.cells #[.slice wa wn wc, .slice (some ⟨w.heap.size, 0, none⟩) n n] 32)).heap[Rb]? = some (.cells R 37)) := alloc_heap hR _
  have HG : Hid (Good s bad p E R n) := hg
  clear hE hR hg hb
  go_wp2_with fail
  refine hch.mono ?_
  clear hch
  generalize w1.alloc (.cells #[.slice wa wn wc, .slice (some ⟨w.heap.size, 0, none⟩) n n] 32) = w2 at *
  rintro e w3 ⟨v, rfl, k, hlead, hci, hb3⟩
  have hbw3 : Below w.heap.size w w3 := hb'.trans (hb3.mono hb'.size)
  have hR3 := (hb3.block Rb (block_lt HR.out)).trans HR.out
  have HL : Hid (Leads bad 0 n k) := hlead
  have HD3 : Hid (EntsAt w3 a n s c bad) := HD.out.below hbw3
  have hkn := hlead.1
  clear hlead hb3 hb' HR
  rcases hci with ⟨rfl, rfl⟩ | ⟨hk, g, cap, rfl, hc⟩
  · clear hR3
    have h0n : ¬ (n : Int) < 0 := by omega
    by_cases hn0 : n = 0
    · subst hn0
      go_wp2_with fail
      refine wp_loop_rounds 1 ?_
      rw [rounds_succ]
      go_wp2_with fail
      go_ret
      exact ⟨rfl, hbw3⟩
    · obtain ⟨b, o, rfl, z⟩ := ent_at HD3.out 0 (by omega)
      rw [HL.out.2.2 (by omega)] at z
      have h0 : (0 : Int) < n := by omega
      go_wp2_with fail
      refine wp_loop_rounds 1 ?_
      rw [rounds_succ]
      go_wp2_with fail
      go_ret
      exact ⟨rfl, hbw3⟩
  · have HC : Hid (∀ i, i < k → w3.cell? ⟨g, i, none⟩ = some (.pointer (some ⟨p (0 + i), 0, none⟩))) := hc
    clear hc
    have hkn1 : ¬ (n : Int) < k := by omega
    go_wp2_with fail
    go_loopw [10] (fun i wr => ∃ t : Nat, t ≤ k ∧ i = .int .i64 t ∧ ∃ q, wr = w3.drewN q) (fun i _ => k - (intOf i).toNat)
    case atStart => exact ⟨0, Nat.zero_le _, rfl, 0, rfl⟩
    case round =>
      obtain ⟨t, ht, rfl, q, rfl⟩ := hrel
      by_cases hlt : t < k
      · obtain ⟨b, o, rfl, z⟩ := ent_at HD3.out t (by omega)
        have hbt : bad t = false := by have := HL.out.2.1 t hlt; rwa [Nat.zero_add] at this
        rw [hbt] at z
        have z2 := HC.out t hlt
        rw [Nat.zero_add] at z2
        obtain ⟨r, ev, _, _, _, _, b1, _⟩ := HG.out t (by omega)
        have z3 : w3.cell? ⟨Rb, t, none⟩ = some (.pointer (some ⟨p t, 0, none⟩)) := by rw [cell_of_row w3 Rb _ _ _ (0, 0) hR3]; exact (b1 hbt).2.2
        clear b1 hbt
        have ht1 : (t : Int) < k := by omega
        have ht2 : (t : Int) < n := by omega
        generalize p t = pt at *
        go_wp2_with fail
        go_quiet (fail)
        go_wp2_with fail
        go_roundw
        case rel => exact ⟨t + 1, by omega, by go_num, _, rfl⟩
        case measure => simp [intOf]; omega
      · obtain rfl : t = k := by omega
        have hbd : Below w.heap.size w (w3.drewN q) := hbw3.trans ⟨rfl, rfl, rfl, Nat.le_refl _, fun _ _ => rfl⟩
        by_cases hkl : t < n
        · obtain ⟨b, o, rfl, z⟩ := ent_at HD3.out t hkl
          have := HL.out.2.2 hkl
          rw [Nat.zero_add] at this
          rw [this] at z
          have hk1 : (t : Int) < n := by omega
          have hk0 : ¬ (t : Int) = 0 := by omega
          go_wp2_with fail
          go_ret
          exact ⟨by simp; omega, hbd⟩
        · have hk1 : ¬ (t : Int) < n := by omega
          have hk0 : ¬ (t : Int) = 0 := by omega
          go_wp2_with fail
          go_ret
          exact ⟨by simp; omega, hbd⟩
end Go.Proofs.Qxb6609495a.Ch
