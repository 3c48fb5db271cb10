import Derived.Test.Qxb6613789aRows
import Derived.Test.Qxb6613789aPlain
import Derived.WalkKit
import Derived.WalkSpells
import Derived.WalkLawsBesides
import Derived.Deep.RegionLaw
import Derived.Deep.AppendLies
import Derived.Deep.QuietTactic
import Derived.BigQuiet
namespace Go.Proofs.Qxb6613789a.Cs
open Go.RowKit

/-- The length in a slot that holds a slice: a loop's measure. -/
def lenIn : Value → Nat | .slice _ n _ => n | _ => 0
/-- A call hands back some bool, true just when p holds. -/
def Tells (e : Ending) (p : Prop) : Prop := ∃ r, e = .returned (.bool r) ∧ (r = true ↔ p)
theorem tells_true {p : Prop} (h : p) : Tells (.returned (.bool true)) p := ⟨true, rfl, by simpa using h⟩
theorem tells_false {p : Prop} (h : ¬ p) : Tells (.returned (.bool false)) p := ⟨false, rfl, by simpa using h⟩
theorem tells_of {p : Prop} {r : Bool} (h : r = true ↔ p) : Tells (.returned (.bool r)) p := ⟨r, rfl, h⟩

/-- The ranges m lie, two cells each, from the head of what the slice value 'ar' leads to. -/
def RowAt (w : World) (ar : Option Addr) (m : List (Int × Int)) : Prop :=
  m = [] ∨ ∃ g, ar = some ⟨g, 0, none⟩ ∧ ∀ j, j < m.length → w.cell? ⟨g, j * 2, none⟩ = some (.int .i32 (at' m j).1) ∧ w.cell? ⟨g, j * 2 + 1, none⟩ = some (.int .i32 (at' m j).2)

/-- A charSet at block S: its ranges m, its bitmap's words. -/
structure SetAt (w : World) (S : Nat) (m : List (Int × Int)) (ar : Option Addr) (cap : Nat) (x0 x1 : Int) : Prop where
  c0 : w.cell? ⟨S, 0, none⟩ = some (.slice ar m.length cap)
  c1 : w.cell? ⟨S, 1, none⟩ = some (.int .u64 x0)
  c2 : w.cell? ⟨S, 2, none⟩ = some (.int .u64 x1)
  le : m.length ≤ cap
  row : RowAt w ar m
  sep : Sep m
  bm : BM m x0 x1
  len : m.length ≤ 1000000

set_option maxHeartbeats 400000 in
theorem contains_high (S : Nat) (m : List (Int × Int)) (ar : Option Addr) (cap : Nat) (x0 x1 c : Int) (w : World) (h : SetAt w S m ar cap x0 x1) (hc : 128 ≤ c) :
    Calls Try.prog 36 #[.pointer (some ⟨S, 0, none⟩), .int .i32 c] w fun e w' => Tells e (inR m c) ∧ w = w' := by
  obtain ⟨c0, _, _, hcap, hrow, hs, _, hlen⟩ := h
  have hlt : ¬ c < 128 := by omega
  go_enter Try.func36, Try.ntmps36
  go_wp2
  go_loop [5] (fun v => ∃ p n cap a, v = .slice p n cap ∧ Left m c a n ∧ n ≤ cap ∧ (0 < n → ∃ g, p = some ⟨g, a * 2, none⟩ ∧ ar = some ⟨g, 0, none⟩)) (fun v => lenIn v)
  case atStart =>
    refine ⟨_, _, _, 0, rfl, left_start m c, hcap, fun h0 => ?_⟩
    rcases hrow with rfl | ⟨g, rfl, _⟩
    · simp at h0
    · exact ⟨g, rfl, rfl⟩
  case round =>
    obtain ⟨p, n, cp, a, rfl, hL, hcp, hp⟩ := hrel
    have hn : n ≤ 1000000 := by have := hL.1; omega
    by_cases h0 : n = 0
    · subst h0
      go_wp2
      go_ret
      exact ⟨tells_false (left_none hL), rfl⟩
    · obtain ⟨g, rfl, hg⟩ := hp (by omega)
      have hpos : (0 : Int) < n := by omega
      obtain ⟨k1, k2⟩ : w.cell? ⟨g, a * 2 + n / 2 * 2, none⟩ = some (.int .i32 (at' m (a + n / 2)).1) ∧ w.cell? ⟨g, a * 2 + n / 2 * 2 + 1, none⟩ = some (.int .i32 (at' m (a + n / 2)).2) := by
        rcases hrow with rfl | ⟨g', e, hr⟩
        · have := hL.1; simp at this; omega
        · rw [e] at hg
          simp only [Option.some.injEq, Addr.mk.injEq] at hg
          obtain ⟨rfl, _⟩ := hg
          have := hr (a + n / 2) (by have := hL.1; omega)
          rwa [Nat.add_mul] at this
      have HG : Hid (ar = some ⟨g, 0, none⟩) := hg
      clear hg hrow
      by_cases h1 : c < (at' m (a + n / 2)).1
      · have hL' := left_down hs hL (show n / 2 < n by omega) h1
        generalize at' m (a + n / 2) = r at *
        go_wp2
        go_round
        case rel => exact ⟨_, _, _, a, rfl, hL', by omega, fun _ => ⟨g, rfl, HG.out⟩⟩
        case measure => simp [lenIn]; omega
      · by_cases h2 : (at' m (a + n / 2)).2 < c
        · have hL' := left_up hs hL (show n / 2 < n by omega) h2
          generalize at' m (a + n / 2) = r at *
          go_wp2
          go_round
          case rel =>
            refine ⟨_, _, _, _, rfl, hL', by omega, fun h5 => ⟨g, ?_, HG.out⟩⟩
            rw [if_neg (by omega)]
            exact congrArg (fun o => some (⟨g, o, none⟩ : Addr)) (by omega)
          case measure => simp [lenIn]; omega
        · have hh : Hid (inR m c) := left_hit hL (show n / 2 < n by omega) h1 h2
          generalize at' m (a + n / 2) = r at *
          go_wp2
          go_ret
          exact ⟨tells_true hh.out, rfl⟩

set_option maxHeartbeats 400000 in
theorem contains_neg (S : Nat) (c : Int) (w : World) (hc : c < 0) :
    Calls Try.prog 36 #[.pointer (some ⟨S, 0, none⟩), .int .i32 c] w fun e w' => e = .returned (.bool false) ∧ ∃ q, w' = w.drewN q := by
  have hlt : c < 128 := by omega
  have hd : decide (0 ≤ c) = false := decide_eq_false (by omega)
  go_enter Try.func36, Try.ntmps36
  go_wp2
  go_quiet (fail)
  go_wp2
  go_ret
  exact ⟨rfl, _, rfl⟩

set_option maxHeartbeats 400000 in
theorem contains_low (S : Nat) (x0 : Int) (c : Int) (w : World) (h1 : w.cell? ⟨S, 1, none⟩ = some (.int .u64 x0)) (hc0 : 0 ≤ c) (hc1 : c < 64) :
    Calls Try.prog 36 #[.pointer (some ⟨S, 0, none⟩), .int .i32 c] w fun e w' => e = .returned (.bool (tb x0 (c % 64).toNat)) ∧ ∃ q, w' = w.drewN q := by
  have hlt : c < 128 := by omega
  have hd : decide (0 ≤ c) = true := by simpa using hc0
  have q0 : c.tdiv 64 = 0 := by rw [Int.tdiv_eq_ediv_of_nonneg hc0]; omega
  go_enter Try.func36, Try.ntmps36
  go_wp2
  go_quiet (fail)
  go_wp2
  go_ret
  exact ⟨rfl, _, rfl⟩

set_option maxHeartbeats 400000 in
theorem contains_mid (S : Nat) (x1 : Int) (c : Int) (w : World) (h2 : w.cell? ⟨S, 2, none⟩ = some (.int .u64 x1)) (hc0 : 64 ≤ c) (hc1 : c < 128) :
    Calls Try.prog 36 #[.pointer (some ⟨S, 0, none⟩), .int .i32 c] w fun e w' => e = .returned (.bool (tb x1 (c % 64).toNat)) ∧ ∃ q, w' = w.drewN q := by
  have hp : 0 ≤ c := by omega
  have hd : decide (0 ≤ c) = true := by simpa using hp
  have q0 : c.tdiv 64 = 1 := by rw [Int.tdiv_eq_ediv_of_nonneg hp]; omega
  go_enter Try.func36, Try.ntmps36
  go_wp2
  go_quiet (fail)
  go_wp2
  go_ret
  exact ⟨rfl, _, rfl⟩

/-- (*charSet).contains, at every character: true just when it lies in one of the ranges. -/
theorem contains_any (S : Nat) (m : List (Int × Int)) (ar : Option Addr) (cap : Nat) (x0 x1 c : Int) (w : World) (h : SetAt w S m ar cap x0 x1) :
    Calls Try.prog 36 #[.pointer (some ⟨S, 0, none⟩), .int .i32 c] w fun e w' => Tells e (inR m c) ∧ ∃ q, w' = w.drewN q := by
  by_cases a : 128 ≤ c
  · exact (contains_high S m ar cap x0 x1 c w h a).mono fun e w' ⟨he, hw⟩ => ⟨he, 0, hw.symm⟩
  by_cases b : c < 0
  · refine (contains_neg S c w b).mono fun e w' ⟨he, hw⟩ => ⟨?_, hw⟩
    subst he
    refine tells_false ?_
    rintro ⟨r, hr, k⟩
    have := (h.sep.2 r hr).2
    unfold Ok at this
    omega
  by_cases d : c < 64
  · refine (contains_low S x0 c w h.c1 (by omega) d).mono fun e w' ⟨he, hw⟩ => ⟨?_, hw⟩
    subst he
    have := h.bm.1 (c % 64).toNat (by omega)
    rw [show (((c % 64).toNat : Nat) : Int) = c by omega] at this
    exact tells_of this
  · refine (contains_mid S x1 c w h.c2 (by omega) (by omega)).mono fun e w' ⟨he, hw⟩ => ⟨?_, hw⟩
    subst he
    have := h.bm.2 (c % 64).toNat (by omega)
    rw [show (64 : Int) + (((c % 64).toNat : Nat) : Int) = c by omega] at this
    exact tells_of this

end Go.Proofs.Qxb6613789a.Cs
