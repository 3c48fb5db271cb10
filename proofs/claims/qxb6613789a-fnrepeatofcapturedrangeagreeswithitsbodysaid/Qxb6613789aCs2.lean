import Derived.Test.Qxb6613789aCs1
namespace Go.Proofs.Qxb6613789a.Cs
open Go.RowKit

def SomeBool (e : Ending) : Prop := ∃ r, e = .returned (.bool r)

set_option maxHeartbeats 400000 in
theorem bytes26_any (a1 a2 : Option Addr) (n1 c1 n2 c2 : Nat) (r : Int) (w : World) :
    Calls Try.prog 26 #[.slice a1 n1 c1, .slice a2 n2 c2, .int .i32 r] w fun e w' => SomeBool e ∧ w = w' := by
  by_cases h1 : n1 ≤ 1048576
  · by_cases h2 : n2 ≤ 1048576
    · by_cases h3 : n1 + n2 ≤ 1048576
      all_goals
        go_enter Try.func26, Try.ntmps26
        go_wp2
        go_ret
        exact ⟨⟨_, rfl⟩, rfl⟩
    · go_enter Try.func26, Try.ntmps26
      go_wp2
      go_ret
      exact ⟨⟨_, rfl⟩, rfl⟩
  · go_enter Try.func26, Try.ntmps26
    go_wp2
    go_ret
    exact ⟨⟨_, rfl⟩, rfl⟩

/-- r lies in one of the first k ranges as given. -/
def hitTo (lo hi : Nat → Int) (r : Int) (k : Nat) : Prop := ∃ j, j < k ∧ lo j ≤ r ∧ r ≤ hi j
theorem hit_step {lo hi : Nat → Int} {r : Int} {k : Nat} (h : ¬ hitTo lo hi r k) (k2 : ¬ (lo k ≤ r ∧ r ≤ hi k)) : ¬ hitTo lo hi r (k + 1) := by
  rintro ⟨j, hj, x⟩
  by_cases e : j = k
  · subst e; exact k2 x
  · exact h ⟨j, by omega, x⟩

set_option maxHeartbeats 400000 in
theorem some_any (b1 o1 c1 b2 o2 c2 n : Nat) (lo hi : Nat → Int) (r : Int) (w : World) (hlo : ∀ j, j < n → w.cell? ⟨b1, o1 + j, none⟩ = some (.int .i32 (lo j))) (hhi : ∀ j, j < n → w.cell? ⟨b2, o2 + j, none⟩ = some (.int .i32 (hi j))) (hn : n ≤ 1000000) :
    Calls Try.prog 30 #[.slice (some ⟨b1, o1, none⟩) n c1, .slice (some ⟨b2, o2, none⟩) n c2, .int .i32 r] w fun e w' => Tells e (hitTo lo hi r n) ∧ w = w' := by
  go_enter Try.func30, Try.ntmps30
  go_wp2
  go_loop [7] (fun i => ∃ k : Nat, k ≤ n ∧ i = .int .i64 k ∧ ¬ hitTo lo hi r k) (fun i => n - (intOf i).toNat)
  case atStart => exact ⟨0, Nat.zero_le _, rfl, fun ⟨j, hj, _⟩ => by omega⟩
  case round =>
    obtain ⟨k, hk, rfl, hno⟩ := hrel
    by_cases hlt : k < n
    · have z1 := hlo k hlt
      have z2 := hhi k hlt
      by_cases e1 : lo k ≤ r
      · by_cases e2 : r ≤ hi k
        · have hh : Hid (hitTo lo hi r n) := ⟨k, hlt, e1, e2⟩
          clear hno
          go_wp2
          go_ret
          exact ⟨tells_true hh.out, rfl⟩
        · have hno' : Hid (¬ hitTo lo hi r (k + 1)) := hit_step hno (fun h => e2 h.2)
          clear hno
          go_wp2
          go_round
          case rel => exact ⟨k + 1, by omega, by go_num, hno'.out⟩
          case measure => simp [intOf]; omega
      · have hno' : Hid (¬ hitTo lo hi r (k + 1)) := hit_step hno (fun h => e1 h.1)
        clear hno
        go_wp2
        go_round
        case rel => exact ⟨k + 1, by omega, by go_num, hno'.out⟩
        case measure => simp [intOf]; omega
    · obtain rfl : k = n := by omega
      have hno' : Hid (¬ hitTo lo hi r k) := hno
      clear hno
      go_wp2
      go_ret
      exact ⟨tells_false hno'.out, rfl⟩

theorem some_none (a1 a2 : Option Addr) (c1 c2 : Nat) (r : Int) (w : World) :
    Calls Try.prog 30 #[.slice a1 0 c1, .slice a2 0 c2, .int .i32 r] w fun e w' => e = .returned (.bool false) ∧ w = w' := by
  go_enter Try.func30, Try.ntmps30
  go_wp2
  refine wp_loop_rounds 1 ?_
  rw [rounds_succ]
  go_wp2
  go_ret
  exact ⟨rfl, rfl⟩

end Go.Proofs.Qxb6613789a.Cs
