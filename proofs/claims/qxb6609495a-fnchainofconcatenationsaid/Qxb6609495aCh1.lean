/-
  How the entries lie in memory; zzBytes, the budget.
-/
import Derived.Test.Qxb6609495aRows
import Derived.WalkKit
import Derived.WalkSpells
import Derived.WalkLawsBesides
import Derived.Deep.AppendLies
import Derived.Deep.DrawnRows
import Derived.Deep.QuietTactic
import Derived.BigQuiet
namespace Go.Proofs.Qxb6609495a.Ch
open Go.RowKit

theorem cell_lt {w : World} {a : Addr} {v : Value} (h : w.cell? a = some v) : a.block < w.heap.size := by
  rcases Nat.lt_or_ge a.block w.heap.size with hlt | hge
  · exact hlt
  · simp [World.cell?, Array.getElem?_eq_none hge] at h
def SomeBool (e : Ending) : Prop := ∃ r, e = .returned (.bool r)
def SomeInt (e : Ending) : Prop := ∃ y, e = .returned (.int .i64 y)

/-- The entries that came in. -/
def EntsAt (w : World) (a : Option Addr) (n : Nat) (s : Nat → ByteArray) (c : Nat → Int) (bad : Nat → Bool) : Prop :=
  n = 0 ∨ ∃ b o, a = some ⟨b, o, none⟩ ∧ ∀ i, i < n → w.cell? ⟨b, o + i * 3, none⟩ = some (.string (s i)) ∧ w.cell? ⟨b, o + i * 3 + 1, none⟩ = some (.int .u64 (c i)) ∧ w.cell? ⟨b, o + i * 3 + 2, none⟩ = some (.bool (bad i))
theorem EntsAt.below {w w' : World} {a : Option Addr} {n : Nat} {s : Nat → ByteArray} {c : Nat → Int} {bad : Nat → Bool} (h : EntsAt w a n s c bad) (hb : Below w.heap.size w w') : EntsAt w' a n s c bad := by
  rcases h with h | ⟨b, o, rfl, hc⟩
  · exact .inl h
  · refine .inr ⟨b, o, rfl, fun i hi => ?_⟩
    obtain ⟨h1, h2, h3⟩ := hc i hi
    exact ⟨(hb.cell (cell_lt h1)).trans h1, (hb.cell (cell_lt h2)).trans h2, (hb.cell (cell_lt h3)).trans h3⟩

set_option maxHeartbeats 1000000 in
theorem budget_any (a : Option Addr) (n cp : Nat) (s : Nat → ByteArray) (c : Nat → Int) (bad : Nat → Bool) (y0 : Int) (w : World) (h : EntsAt w a n s c bad) (hn : n ≤ 1000000) :
    Calls Try.prog 6 #[.slice a n cp, .int .i64 y0] w fun e w' => SomeInt e ∧ w = w' := by
  go_enter Try.func6, Try.ntmps6
  go_wp2_with fail
  go_loop [1, 5] (fun z i => ∃ (k : Nat) (y : Int), k ≤ n ∧ i = .int .i64 k ∧ z = .int .i64 y) (fun _ i => n - (intOf i).toNat)
  case atStart => exact ⟨0, y0, Nat.zero_le _, rfl, rfl⟩
  case round =>
    obtain ⟨k, y, hk, rfl, rfl⟩ := hrel
    by_cases hlt : k < n
    · obtain ⟨b, o, rfl, hc⟩ : ∃ b o, a = some ⟨b, o, none⟩ ∧ ∀ i, i < n → w.cell? ⟨b, o + i * 3, none⟩ = some (.string (s i)) ∧ w.cell? ⟨b, o + i * 3 + 1, none⟩ = some (.int .u64 (c i)) ∧ w.cell? ⟨b, o + i * 3 + 2, none⟩ = some (.bool (bad i)) := by
        rcases h with h | h
        · omega
        · exact h
      obtain ⟨z1, _, _⟩ := hc k hlt
      clear hc h
      have hk1 : (k : Int) < n := by omega
      generalize s k = sk at *
      go_wp2_with fail
      · go_ret; exact ⟨⟨_, rfl⟩, rfl⟩
      · go_round
        case rel => exact ⟨k + 1, _, by omega, by go_num, rfl⟩
        case measure => simp [intOf]; omega
    · go_wp2_with fail
      go_ret; exact ⟨⟨_, rfl⟩, rfl⟩

set_option maxHeartbeats 1000000 in
theorem bytes5_any (wa : Option Addr) (wn wc : Nat) (a : Option Addr) (n cp : Nat) (s : Nat → ByteArray) (c : Nat → Int) (bad : Nat → Bool) (w : World) (h : EntsAt w a n s c bad) :
    Calls Try.prog 5 #[.slice wa wn wc, .slice a n cp] w fun e w' => SomeBool e ∧ w = w' := by
  by_cases h1 : wn ≤ 1048576
  · by_cases h2 : n ≤ 1048576
    · by_cases h3 : wn + n ≤ 1048576
      · go_enter Try.func5, Try.ntmps5
        go_wp2_with fail
        go_loop [5, 6] (fun z i => ∃ (k : Nat) (y : Int), k ≤ n ∧ i = .int .i64 k ∧ z = .int .i64 y) (fun _ i => n - (intOf i).toNat)
        case atStart => exact ⟨0, _, Nat.zero_le _, rfl, rfl⟩
        case round =>
          obtain ⟨k, y, hk, rfl, rfl⟩ := hrel
          by_cases hlt : k < n
          · obtain ⟨b, o, rfl, hc⟩ : ∃ b o, a = some ⟨b, o, none⟩ ∧ ∀ i, i < n → w.cell? ⟨b, o + i * 3, none⟩ = some (.string (s i)) ∧ w.cell? ⟨b, o + i * 3 + 1, none⟩ = some (.int .u64 (c i)) ∧ w.cell? ⟨b, o + i * 3 + 2, none⟩ = some (.bool (bad i)) := by
              rcases h with h | h
              · omega
              · exact h
            obtain ⟨z1, _, _⟩ := hc k hlt
            clear hc h
            have hk1 : (k : Int) < n := by omega
            generalize s k = sk at *
            go_wp2_with fail
            · go_ret; exact ⟨⟨_, rfl⟩, rfl⟩
            · go_ret; exact ⟨⟨_, rfl⟩, rfl⟩
            · go_round
              case rel => exact ⟨k + 1, _, by omega, by go_num, rfl⟩
              case measure => simp [intOf]; omega
          · go_wp2_with fail
            go_ret; exact ⟨⟨_, rfl⟩, rfl⟩
      · go_enter Try.func5, Try.ntmps5
        go_wp2_with fail
        go_ret; exact ⟨⟨_, rfl⟩, rfl⟩
    · go_enter Try.func5, Try.ntmps5
      go_wp2_with fail
      go_ret; exact ⟨⟨_, rfl⟩, rfl⟩
  · go_enter Try.func5, Try.ntmps5
    go_wp2_with fail
    go_ret; exact ⟨⟨_, rfl⟩, rfl⟩

/-- One set of leading entries that are good: k of the n from place o. -/
def Leads (bad : Nat → Bool) (o n k : Nat) : Prop := k ≤ n ∧ (∀ j, j < k → bad (o + j) = false) ∧ (k < n → bad (o + k) = true)
theorem leads_unique {bad : Nat → Bool} {o n k l : Nat} (h : Leads bad o n k) (h' : Leads bad o n l) : k = l := by
  obtain ⟨a1, a2, a3⟩ := h
  obtain ⟨b1, b2, b3⟩ := h'
  rcases Nat.lt_trichotomy k l with e | e | e
  · have := a3 (by omega); rw [b2 k e] at this; cases this
  · exact e
  · have := b3 (by omega); rw [a2 l e] at this; cases this
/-- LAW: the leading entries of two rows, one behind the other. -/
theorem leads_join {bad : Nat → Bool} {n m k l : Nat} (h : Leads bad 0 n k) (h' : Leads bad n m l) : Leads bad 0 (n + m) (if k = n then n + l else k) := by
  obtain ⟨a1, a2, a3⟩ := h
  obtain ⟨b1, b2, b3⟩ := h'
  by_cases e : k = n
  · rw [if_pos e]
    refine ⟨by omega, fun j hj => ?_, fun hlt => ?_⟩
    · by_cases hjn : j < n
      · exact a2 j (by omega)
      · have := b2 (j - n) (by omega)
        rwa [show n + (j - n) = 0 + j by omega] at this
    · have := b3 (by omega)
      rwa [show n + l = 0 + (n + l) by omega] at this
  · rw [if_neg e]
    exact ⟨by omega, a2, fun _ => a3 (by omega)⟩
end Go.Proofs.Qxb6609495a.Ch
