import Derived.Test.Qxb6613789aCs5
namespace Go.Proofs.Qxb6613789a.Cs
open Go.RowKit
attribute [local go_sem ↓] Go.wp_at_zero Go.wp_at_succ

set_option maxRecDepth 100000 in
set_option maxHeartbeats 1000000 in
/-- zzRanges at no range: an empty slice that is not nil. -/
theorem ranges_none (a1 a2 : Option Addr) (c1 c2 : Nat) (w : World) :
    Calls Try.prog 28 #[.slice a1 0 c1, .slice a2 0 c2] w fun e w' => ∃ g cap, e = .returned (.slice (some ⟨g, 0, none⟩) 0 cap) ∧
      w'.ownsRow w.heap.size 27 2 (.slice (some ⟨g, 0, none⟩) 0 cap) 0 [] ∧ Below w.heap.size w w' := by
  obtain ⟨i0, hi0, hz0, hz1, hz2⟩ := info_parts info27
  go_enter Try.func28, Try.ntmps28
  go_wp2_with (at_make; refine wpList_make_own _ rfl _ _ 29 rfl w.heap.size 27 i0 _ 2 Try.underlying29 hi0 hz0 hz1 .i64 .i64 _ 0 rfl rfl (by omega) (by omega) (by unfold maxLen; omega) (Nat.le_refl _) ?_; intro w1 hown1 hgrow1)
  have hbel1 : Below w.heap.size w w1 := (Below.refl _ _).grown hgrow1 (Nat.le_refl _) (fun k h => by cases h)
  clear hgrow1
  refine wp_loop_rounds 1 ?_
  rw [rounds_succ]
  go_wp2_with fail
  go_ret
  exact ⟨_, _, rfl, hown1, hbel1⟩

/-- zzRanges' own ranges. -/
def rangesOf (lo hi : Nat → Int) (n : Nat) : List (Int × Int) := (List.range n).map fun k => (lo k, hi k)
theorem rangesOf_length (lo hi : Nat → Int) (n : Nat) : (rangesOf lo hi n).length = n := by simp [rangesOf]
theorem inR_rangesOf (lo hi : Nat → Int) (n : Nat) (c : Int) : inR (rangesOf lo hi n) c ↔ hitTo lo hi c n := by
  unfold inR rangesOf hitTo
  constructor
  · rintro ⟨r, hr, k⟩
    obtain ⟨j, hj, rfl⟩ := List.mem_map.1 hr
    exact ⟨j, List.mem_range.1 hj, k⟩
  · rintro ⟨j, hj, k⟩
    exact ⟨(lo j, hi j), List.mem_map.2 ⟨j, List.mem_range.2 hj, rfl⟩, k⟩

/-- A class at block C, of just the characters that p tells. -/
def ClassAt (w : World) (C : Nat) (p : Int → Prop) : Prop := ∃ S m ar cap x0 x1, w.cell? ⟨C, 0, none⟩ = some (.pointer (some ⟨S, 0, none⟩)) ∧ SetAt w S m ar cap x0 x1 ∧ ∀ c, inR m c ↔ p c

theorem made_in {w w' : World} {rs : List (Int × Int)} {e : Ending} (hok : ∀ r ∈ rs, Ok r) (h : Made w rs e w') :
    ∃ S m ar cap x0 x1, e = .returned (.pointer (some ⟨S, 0, none⟩)) ∧ w.heap.size ≤ S ∧ SetAt w' S m ar cap x0 x1 ∧ (∀ c, inR m c ↔ inR rs c) ∧ Below w.heap.size w w' := by
  obtain ⟨S, ds, ar, cap, x0, x1, he, hS, hset, hp, hs, hb⟩ := h
  refine ⟨S, _, ar, cap, x0, x1, he, hS, hset, fun c => ?_, hb⟩
  have := (mergeK_all ds hs (fun r hr => hok r (hp.mem_iff.1 hr)) ds.length (Nat.le_refl _)).2.1 c
  rw [this, List.take_length]
  unfold inR
  constructor
  · rintro ⟨r, hr, k⟩; exact ⟨r, hp.mem_iff.1 hr, k⟩
  · rintro ⟨r, hr, k⟩; exact ⟨r, hp.mem_iff.2 hr, k⟩

set_option maxHeartbeats 1000000 in
theorem newClass_of (v : Value) (rs : List (Int × Int)) (w : World) (hok : ∀ r ∈ rs, Ok r) (hns : Calls Try.prog 31 #[v] w fun e w' => Made w rs e w') :
    Calls Try.prog 27 #[v] w fun e w' => ∃ C, e = .returned (.pointer (some ⟨C, 0, none⟩)) ∧ ClassAt w' C (inR rs) ∧ Below w.heap.size w w' := by
  go_enter Try.func27, Try.ntmps27
  go_wp2_with fail
  refine hns.mono ?_
  clear hns
  intro e w' hm
  obtain ⟨S, m, ar, cap, x0, x1, rfl, hS, hset, hin, hb⟩ := made_in hok hm
  go_wp2_with fail
  go_ret
  exact ⟨w'.heap.size, rfl, ⟨S, m, ar, cap, x0, x1, news_at w' _ #[.pointer (some ⟨S, 0, none⟩)] 85 rfl 0 _ rfl, hset.below ((Below.refl _ _).alloc (Nat.le_refl _) _), hin⟩, hb.alloc hb.size _⟩

set_option maxHeartbeats 1000000 in
theorem classContains (C : Nat) (p : Int → Prop) (c : Int) (w : World) (h : ClassAt w C p) :
    Calls Try.prog 29 #[.pointer (some ⟨C, 0, none⟩), .int .i32 c] w fun e w' => Tells e (p c) ∧ ∃ q, w' = w.drewN q := by
  obtain ⟨S, m, ar, cap, x0, x1, hc, hset, hin⟩ := h
  have hcon := contains_any S m ar cap x0 x1 c w hset
  have HI : Hid (inR m c ↔ p c) := hin c
  clear hset hin
  go_enter Try.func29, Try.ntmps29
  go_wp2_with fail
  refine hcon.mono ?_
  clear hcon
  rintro e w' ⟨⟨r, rfl, hr⟩, q, rfl⟩
  have HR : Hid (r = true ↔ inR m c) := hr
  clear hr
  go_wp2_with fail
  go_ret
  exact ⟨tells_of (HR.out.trans HI.out), q, rfl⟩

theorem tells_same {p q : Prop} {r s : Bool} (h1 : r = true ↔ p) (h2 : s = true ↔ q) (h : p ↔ q) : (r == s) = true := by
  cases r <;> cases s <;> simp_all

end Go.Proofs.Qxb6613789a.Cs
