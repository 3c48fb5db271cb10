import Derived.Test.Qxb6613826aLb1
namespace Go.Proofs.Qxb6613826a.Lb
open Go.RowKit

def SomeBool (e : Ending) : Prop := ∃ r, e = .returned (.bool r)

set_option maxHeartbeats 1000000 in
theorem bytes5_any (a : Option Addr) (n c : Nat) (V : Nat → Value) (m : Nat → Nat) (x : Nat → Nat → Int) (q : Int) (w : World) (h : DaysAt w a n V m x) :
    Calls Try.prog 5 #[.slice a n c, .int .i64 q] w fun e w' => SomeBool e ∧ w = w' := by
  by_cases hlen : n ≤ 1048576
  · go_enter Try.func5, Try.ntmps5
    go_wp2
    go_loop [5, 6] (fun z i => ∃ k : Nat, k ≤ n ∧ i = .int .i64 k ∧ ∃ y, z = .int .i64 y) (fun _ i => n - (intOf i).toNat)
    case atStart => exact ⟨0, Nat.zero_le _, rfl, _, rfl⟩
    case round =>
      obtain ⟨k, hk, rfl, z, rfl⟩ := hrel
      by_cases hlt : k < n
      · obtain ⟨b, o, rfl, hc⟩ : ∃ b o, a = some ⟨b, o, none⟩ ∧ ∀ i, i < n → w.cell? ⟨b, o + i, none⟩ = some (V i) ∧ RowAt w (V i) (m i) (x i) := by
          rcases h with h | h
          · omega
          · exact h
        obtain ⟨z1, p, cc, e, _⟩ := hc k hlt
        rw [e] at z1
        clear hc e h
        have hk1 : (k : Int) < n := by omega
        go_wp2
        · go_ret; exact ⟨⟨_, rfl⟩, rfl⟩
        · go_ret; exact ⟨⟨_, rfl⟩, rfl⟩
        · go_round
          case rel => exact ⟨k + 1, by omega, by go_num, _, rfl⟩
          case measure => simp [intOf]; omega
      · go_wp2
        go_ret; exact ⟨⟨_, rfl⟩, rfl⟩
  · go_enter Try.func5, Try.ntmps5
    go_wp2
    go_ret; exact ⟨⟨_, rfl⟩, rfl⟩

set_option maxHeartbeats 1000000 in
theorem bytes9_any (a : Option Addr) (n c : Nat) (V : Nat → Value) (m : Nat → Nat) (x : Nat → Nat → Int) (q d : Int) (w : World) (h : DaysAt w a n V m x) :
    Calls Try.prog 9 #[.slice a n c, .int .i64 q, .int .i64 d] w fun e w' => SomeBool e ∧ w = w' := by
  by_cases hlen : n ≤ 1048576
  · go_enter Try.func9, Try.ntmps9
    go_wp2
    go_loop [7, 8] (fun z i => ∃ k : Nat, k ≤ n ∧ i = .int .i64 k ∧ ∃ y, z = .int .i64 y) (fun _ i => n - (intOf i).toNat)
    case atStart => exact ⟨0, Nat.zero_le _, rfl, _, rfl⟩
    case round =>
      obtain ⟨k, hk, rfl, z, rfl⟩ := hrel
      by_cases hlt : k < n
      · obtain ⟨b, o, rfl, hc⟩ : ∃ b o, a = some ⟨b, o, none⟩ ∧ ∀ i, i < n → w.cell? ⟨b, o + i, none⟩ = some (V i) ∧ RowAt w (V i) (m i) (x i) := by
          rcases h with h | h
          · omega
          · exact h
        obtain ⟨z1, p, cc, e, _⟩ := hc k hlt
        rw [e] at z1
        clear hc e h
        have hk1 : (k : Int) < n := by omega
        go_wp2
        · go_ret; exact ⟨⟨_, rfl⟩, rfl⟩
        · go_ret; exact ⟨⟨_, rfl⟩, rfl⟩
        · go_round
          case rel => exact ⟨k + 1, by omega, by go_num, _, rfl⟩
          case measure => simp [intOf]; omega
      · go_wp2
        go_ret; exact ⟨⟨_, rfl⟩, rfl⟩
  · go_enter Try.func9, Try.ntmps9
    go_wp2
    go_ret; exact ⟨⟨_, rfl⟩, rfl⟩

theorem zzMax_any (a b : Int) (w : World) : Calls Try.prog 8 #[.int .i64 a, .int .i64 b] w fun e w' => e = .returned (.int .i64 (if b < a then a else b)) ∧ w = w' := by
  by_cases h : b < a
  · go_enter Try.func8, Try.ntmps8
    go_wp2
    go_ret
    exact ⟨rfl, rfl⟩
  · go_enter Try.func8, Try.ntmps8
    go_wp2
    go_ret
    exact ⟨rfl, rfl⟩

set_option maxRecDepth 100000 in
set_option maxHeartbeats 1000000 in
theorem lookBack_any (v : Value) (n : Nat) (m : Nat → Nat) (x : Nat → Nat → Int) (w : World) (h : SetsAt w v n m x) (hn : n ≤ 1000000) (hm : ∀ i, i < n → m i ≤ 1000000) :
    Calls Try.prog 7 #[v] w fun e w' => e = .returned (.int .i64 (lb m x n)) ∧ Below w.heap.size w w' := by
  obtain ⟨g, c, U, rfl, hU⟩ := h
  have HU : Hid (∀ i, i < n → w.cell? ⟨g, i, none⟩ = some (U i) ∧ SetAt g w (U i) (m i) (x i)) := hU
  clear hU
  go_enter Try.func7, Try.ntmps7
  go_wp2_with fail
  go_loopw [3, 10] (fun z i wr => ∃ k : Nat, k ≤ n ∧ i = .int .i64 k ∧ z = .int .i64 (lb m x k) ∧ Below w.heap.size w wr) (fun _ i _ => n - (intOf i).toNat)
  case atStart => exact ⟨0, Nat.zero_le _, rfl, rfl, Below.refl _ _⟩
  case round =>
    obtain ⟨k, hk, rfl, rfl, hbel⟩ := hrel
    by_cases hlt : k < n
    · obtain ⟨hcell, P, p, cc, hu, _, hP, hr⟩ := HU.out k hlt
      rw [hu] at hcell
      have z1 : wr.cell? ⟨g, k, none⟩ = some (.pointer (some ⟨P, 0, none⟩)) := (hbel.cell (cell_lt hcell)).trans hcell
      have z2 : wr.cell? ⟨P, 16, none⟩ = some (.slice p (m k) cc) := (hbel.cell (cell_lt hP)).trans hP
      have hPw := cell_lt z2
      have hgw := cell_lt z1
      have hmk := hm k hlt
      have hnx : Hid (lb m x (k + 1) = rowMax (lb m x k) (x k) (m k)) := rfl
      have HR : Hid (m k = 0 ∨ ∃ r, p = some ⟨r, 0, none⟩ ∧ g < r ∧ ∀ j, j < m k → w.cell? ⟨r, j * 3, none⟩ = some (.int .i64 (x k j)) ∧ w.cell? ⟨r, j * 3 + 1, none⟩ = some (.pointer none) ∧ w.cell? ⟨r, j * 3 + 2, none⟩ = some (.int .i32 0)) := hr
      clear hcell hP hu hr
      have hk1 : (k : Int) < n := by omega
      generalize lb m x k = z at *
      generalize hq : m k = mk at *
      generalize x k = xk at *
      clear hq
      obtain ⟨wo, rfl⟩ : ∃ wo : World, wo = wr := ⟨_, rfl⟩
      go_wp2_with fail
      go_loopw [3, 19] (fun z' i wr => ∃ j : Nat, j ≤ mk ∧ i = .int .i64 j ∧ z' = .int .i64 (rowMax z xk j) ∧ Below w.heap.size w wr) (fun _ i _ => mk - (intOf i).toNat)
      case atStart => exact ⟨0, Nat.zero_le _, rfl, rfl, hbel⟩
      case round =>
        obtain ⟨j, hj, rfl, rfl, hbel2⟩ := hrel
        by_cases hjl : j < mk
        · obtain ⟨r, rfl, _, hc⟩ : ∃ r, p = some ⟨r, 0, none⟩ ∧ g < r ∧ ∀ j, j < mk → w.cell? ⟨r, j * 3, none⟩ = some (.int .i64 (xk j)) ∧ w.cell? ⟨r, j * 3 + 1, none⟩ = some (.pointer none) ∧ w.cell? ⟨r, j * 3 + 2, none⟩ = some (.int .i32 0) := by
            rcases HR.out with h | h
            · omega
            · exact h
          obtain ⟨c1, c2, c3⟩ := hc j hjl
          have y1 := (hbel2.cell (cell_lt c1)).trans c1
          have y2 := (hbel2.cell (cell_lt c2)).trans c2
          have y3 := (hbel2.cell (cell_lt c3)).trans c3
          have hrw := cell_lt y1
          have hsz := hbel2.size
          have hst : Hid (rowMax z xk (j + 1) = if rowMax z xk j < xk j then xk j else rowMax z xk j) := rfl
          clear hc c1 c2 c3
          have hj1 : (j : Int) < mk := by omega
          generalize xk j = y at *
          generalize rowMax z xk j = t at *
          go_wp2_with fail
          go_roundw
          case rel => exact ⟨j + 1, by omega, by go_num, by rw [hst.out], hbel2.alloc hsz _⟩
          case measure => simp [intOf]; omega
        · obtain rfl : j = mk := by omega
          go_wp2_with fail
          go_roundw
          case rel => exact ⟨k + 1, by omega, by go_num, by rw [hnx.out], hbel2⟩
          case measure => simp [intOf]; omega
    · obtain rfl : k = n := by omega
      go_wp2_with fail
      go_ret
      exact ⟨rfl, hbel⟩
end Go.Proofs.Qxb6613826a.Lb
