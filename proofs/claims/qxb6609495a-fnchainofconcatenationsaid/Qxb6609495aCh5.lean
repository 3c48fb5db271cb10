import Derived.Test.Qxb6609495aCh4
namespace Go.Proofs.Qxb6609495a.Ch
open Go.RowKit

set_option maxHeartbeats 2000000 in
theorem bytes9_any (wa : Option Addr) (wn wc : Nat) (a : Option Addr) (n cp : Nat) (s : Nat → ByteArray) (c : Nat → Int) (bad : Nat → Bool) (a' : Option Addr) (n' cp' : Nat) (s' : Nat → ByteArray) (c' : Nat → Int) (bad' : Nat → Bool) (w : World) (h : EntsAt w a n s c bad) (h' : EntsAt w a' n' s' c' bad') :
    Calls Try.prog 9 #[.slice wa wn wc, .slice a n cp, .slice a' n' cp'] w fun e w' => SomeBool e ∧ w = w' := by
  by_cases h1 : wn ≤ 1048576
  · by_cases h2 : n ≤ 1048576
    · by_cases h3 : wn + n ≤ 1048576
      · have HA : Hid (EntsAt w a n s c bad) := h
        have HB : Hid (EntsAt w a' n' s' c' bad') := h'
        clear h h'
        go_enter Try.func9, Try.ntmps9
        go_wp2_with fail
        go_loop [7, 8] (fun z i => ∃ (k : Nat) (y : Int), k ≤ n ∧ i = .int .i64 k ∧ z = .int .i64 y) (fun _ i => n - (intOf i).toNat)
        case atStart => exact ⟨0, _, Nat.zero_le _, rfl, rfl⟩
        case round =>
          obtain ⟨k, y, hk, rfl, rfl⟩ := hrel
          by_cases hlt : k < n
          · obtain ⟨b, o, rfl, hc⟩ : ∃ b o, a = some ⟨b, o, none⟩ ∧ ∀ i, i < n → w.cell? ⟨b, o + i * 3, none⟩ = some (.string (s i)) ∧ w.cell? ⟨b, o + i * 3 + 1, none⟩ = some (.int .u64 (c i)) ∧ w.cell? ⟨b, o + i * 3 + 2, none⟩ = some (.bool (bad i)) := by
              rcases HA.out with h | h
              · omega
              · exact h
            obtain ⟨z1, _, _⟩ := hc k hlt
            clear hc
            have hk1 : (k : Int) < n := by omega
            generalize s k = sk at *
            go_wp2_with fail
            · go_ret; exact ⟨⟨_, rfl⟩, rfl⟩
            · go_ret; exact ⟨⟨_, rfl⟩, rfl⟩
            · go_round
              case rel => exact ⟨k + 1, _, by omega, by go_num, rfl⟩
              case measure => simp [intOf]; omega
          · by_cases h4 : (1048576 : Int) < n'
            · go_wp2_with fail
              go_ret; exact ⟨⟨_, rfl⟩, rfl⟩
            · go_wp2_with fail
              · go_ret; exact ⟨⟨_, rfl⟩, rfl⟩
              · go_loop [7, 9] (fun z i => ∃ (k : Nat) (y : Int), k ≤ n' ∧ i = .int .i64 k ∧ z = .int .i64 y) (fun _ i => n' - (intOf i).toNat)
                case atStart => exact ⟨0, _, Nat.zero_le _, rfl, rfl⟩
                case round =>
                  obtain ⟨k, y, hk, rfl, rfl⟩ := hrel
                  by_cases hlt : k < n'
                  · obtain ⟨b, o, rfl, hc⟩ : ∃ b o, a' = some ⟨b, o, none⟩ ∧ ∀ i, i < n' → w.cell? ⟨b, o + i * 3, none⟩ = some (.string (s' i)) ∧ w.cell? ⟨b, o + i * 3 + 1, none⟩ = some (.int .u64 (c' i)) ∧ w.cell? ⟨b, o + i * 3 + 2, none⟩ = some (.bool (bad' i)) := by
                      rcases HB.out with h | h
                      · omega
                      · exact h
                    obtain ⟨z1, _, _⟩ := hc k hlt
                    clear hc
                    have hk1 : (k : Int) < n' := by omega
                    generalize s' k = sk at *
                    go_wp2_with fail
                    · go_ret; exact ⟨⟨_, rfl⟩, rfl⟩
                    · go_ret; exact ⟨⟨_, rfl⟩, rfl⟩
                    · go_round
                      case rel => exact ⟨k + 1, _, by omega, by go_num, rfl⟩
                      case measure => simp [intOf]; omega
                  · go_wp2_with fail
                    go_ret; exact ⟨⟨_, rfl⟩, rfl⟩
      · go_enter Try.func9, Try.ntmps9
        go_wp2_with fail
        go_ret; exact ⟨⟨_, rfl⟩, rfl⟩
    · go_enter Try.func9, Try.ntmps9
      go_wp2_with fail
      go_ret; exact ⟨⟨_, rfl⟩, rfl⟩
  · go_enter Try.func9, Try.ntmps9
    go_wp2_with fail
    go_ret; exact ⟨⟨_, rfl⟩, rfl⟩

/-! ### Two rows of entries, one behind the other -/
def ents (s : Nat → ByteArray) (c : Nat → Int) (bad : Nat → Bool) : Nat → List Value
  | 0 => []
  | n + 1 => ents s c bad n ++ [.string (s n), .int .u64 (c n), .bool (bad n)]
theorem ents_length (s : Nat → ByteArray) (c : Nat → Int) (bad : Nat → Bool) (n : Nat) : (ents s c bad n).length = n * 3 := by
  induction n with
  | zero => rfl
  | succ n ih => simp [ents, ih]; omega
theorem ents_get (s : Nat → ByteArray) (c : Nat → Int) (bad : Nat → Bool) (n i : Nat) (hi : i < n) : (ents s c bad n)[i * 3]? = some (.string (s i)) ∧ (ents s c bad n)[i * 3 + 1]? = some (.int .u64 (c i)) ∧ (ents s c bad n)[i * 3 + 2]? = some (.bool (bad i)) := by
  induction n with
  | zero => omega
  | succ m ih =>
    have e : ents s c bad (m + 1) = ents s c bad m ++ [.string (s m), .int .u64 (c m), .bool (bad m)] := rfl
    have hl := ents_length s c bad m
    by_cases h : i < m
    · obtain ⟨x, y, z⟩ := ih h
      rw [e, List.getElem?_append_left (by omega), List.getElem?_append_left (by omega), List.getElem?_append_left (by omega)]
      exact ⟨x, y, z⟩
    · obtain rfl : i = m := by omega
      rw [e, List.getElem?_append_right (by omega), List.getElem?_append_right (by omega), List.getElem?_append_right (by omega), hl]
      simp
theorem ents_one (s : Nat → ByteArray) (c : Nat → Int) (bad : Nat → Bool) (n : Nat) : ∀ u ∈ ents s c bad n, u.oneCell' = true := by
  induction n with
  | zero => simp [ents]
  | succ n ih =>
    intro u hu
    rcases List.mem_append.1 hu with h | h
    · exact ih u h
    · simp at h; rcases h with rfl | rfl | rfl <;> rfl
/-- What lies in memory, as a list. -/
theorem ents_mem {w : World} {a : Option Addr} {n : Nat} {s : Nat → ByteArray} {c : Nat → Int} {bad : Nat → Bool} (h : EntsAt w a n s c bad) : ∀ ad, a = some ad → ∀ j u, (ents s c bad n)[j]? = some u → w.cell? (ad.add j) = some u := by
  intro ad had j u hu
  have hj : j < n * 3 := by rw [← ents_length s c bad n]; exact (List.getElem?_eq_some_iff.1 hu).1
  rcases h with h | ⟨b, o, rfl, hc⟩
  · omega
  · simp only [Option.some.injEq] at had
    subst had
    obtain ⟨x, y, z⟩ := ents_get s c bad n (j / 3) (by omega)
    obtain ⟨x', y', z'⟩ := hc (j / 3) (by omega)
    rw [Addr.add_lit]
    have h3 : j % 3 = 0 ∨ j % 3 = 1 ∨ j % 3 = 2 := by omega
    rcases h3 with h3 | h3 | h3
    · rw [show j / 3 * 3 = j by omega] at x x'; rw [x] at hu; cases hu; exact x'
    · rw [show j / 3 * 3 + 1 = j by omega] at y; rw [show o + j / 3 * 3 + 1 = o + j by omega] at y'; rw [y] at hu; cases hu; exact y'
    · rw [show j / 3 * 3 + 2 = j by omega] at z; rw [show o + j / 3 * 3 + 2 = o + j by omega] at z'; rw [z] at hu; cases hu; exact z'
def both {α : Type} (n : Nat) (x y : Nat → α) (i : Nat) : α := if i < n then x i else y (i - n)
theorem both_lo {α : Type} (n : Nat) (x y : Nat → α) (i : Nat) (h : i < n) : both n x y i = x i := if_pos h
theorem both_hi {α : Type} (n : Nat) (x y : Nat → α) (i : Nat) : both n x y (n + i) = y i := by rw [both, if_neg (by omega), show n + i - n = i by omega]
/-- The row that holds both. -/
theorem ents_both {w : World} {base g n m cp : Nat} {s s' : Nat → ByteArray} {c c' : Nat → Int} {bad bad' : Nat → Bool} (h : w.ownsRow base 36 3 (.slice (some ⟨g, 0, none⟩) (n + m) cp) (n + m) (ents s c bad n ++ ents s' c' bad' m)) :
    EntsAt w (some ⟨g, 0, none⟩) (n + m) (both n s s') (both n c c') (both n bad bad') := by
  refine .inr ⟨g, 0, rfl, fun i hi => ?_⟩
  have hl := ents_length s c bad n
  rw [Nat.zero_add, h.cellAt (i * 3) (by omega), h.cellAt (i * 3 + 1) (by omega), h.cellAt (i * 3 + 2) (by omega)]
  by_cases e : i < n
  · obtain ⟨x, y, z⟩ := ents_get s c bad n i e
    rw [List.getElem?_append_left (by omega), List.getElem?_append_left (by omega), List.getElem?_append_left (by omega), both_lo n s s' i e, both_lo n c c' i e, both_lo n bad bad' i e]
    exact ⟨x, y, z⟩
  · obtain ⟨j, rfl⟩ : ∃ j, i = n + j := ⟨i - n, by omega⟩
    obtain ⟨x, y, z⟩ := ents_get s' c' bad' m j (by omega)
    rw [List.getElem?_append_right (by omega), List.getElem?_append_right (by omega), List.getElem?_append_right (by omega), hl, both_hi, both_hi, both_hi, show (n + j) * 3 - n * 3 = j * 3 by omega, show (n + j) * 3 + 1 - n * 3 = j * 3 + 1 by omega, show (n + j) * 3 + 2 - n * 3 = j * 3 + 2 by omega]
    exact ⟨x, y, z⟩
/-- A chain's value, in one form. -/
theorem chain_form {w : World} {v : Value} {p : Nat → Nat} {o k : Nat} (h : ChainIs w v p o k) : ∃ ao cap, v = .slice ao k cap ∧ ∀ i, i < k → ∃ g, ao = some ⟨g, 0, none⟩ ∧ w.cell? ⟨g, i, none⟩ = some (.pointer (some ⟨p (o + i), 0, none⟩)) := by
  rcases h with ⟨rfl, rfl⟩ | ⟨_, g, cap, rfl, hc⟩
  · exact ⟨none, 0, rfl, fun i hi => by omega⟩
  · exact ⟨_, cap, rfl, fun i hi => ⟨g, rfl, hc i hi⟩⟩
end Go.Proofs.Qxb6609495a.Ch
