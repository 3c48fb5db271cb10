import Derived.Test.Qxb6613789aCs2
import Derived.Deep.RegionHeld3
import Derived.Deep.DrawnRows
namespace Go.Proofs.Qxb6613789a.Cs
open Go.RowKit
attribute [local go_sem ↓] Go.wp_at_zero Go.wp_at_succ

theorem info27 : (Try.prog.info? 27).map (fun i => (i.zero, i.size, i.bytes)) = some (some (.agg #[.int .i32 0, .int .i32 0]), 2, 8) := by kernel_rfl

/-- A range's block. -/
def rgObj (a b : Int) : Obj := .cells #[.int .i32 a, .int .i32 b] 27

set_option maxHeartbeats 400000 in
theorem mkRange_any (a b : Int) (w : World) :
    Calls Try.prog 9 #[.int .i32 a, .int .i32 b] w fun e w' => e = .returned (.agg #[.int .i32 a, .int .i32 b]) ∧ w.alloc (.cells #[.int .i32 a, .int .i32 b] 27) = w' := by
  go_enter Try.func9, Try.ntmps9
  go_wp2
  exact bodyPost_ret (v := .agg #[.int .i32 a, .int .i32 b]) (by simp [results, Try.results9, go_sem]) rfl ⟨rfl, rfl⟩

/-- The cells of a block that was just made, behind a draw or not. -/
theorem news_at (W : World) (B : Nat) (cs : Array Value) (t : TypeId) (hB : B = W.heap.size) : ∀ j u, cs.toList[j]? = some u → (W.alloc (.cells cs t)).cell? ((⟨B, 0, none⟩ : Addr).add j) = some u := by
  subst hB; exact World.news_of_block (heap_alloc_new W _)

/-- The first k ranges, flat. -/
def flatTo (lo hi : Nat → Int) : Nat → List Value
  | 0 => []
  | k + 1 => flatTo lo hi k ++ [.int .i32 (lo k), .int .i32 (hi k)]
theorem flatTo_length (lo hi : Nat → Int) (k : Nat) : (flatTo lo hi k).length = k * 2 := by
  induction k with
  | zero => rfl
  | succ k ih => simp [flatTo, ih]; omega

set_option maxRecDepth 100000 in
set_option maxHeartbeats 1000000 in
theorem ranges_any (b1 o1 c1 b2 o2 c2 n : Nat) (lo hi : Nat → Int) (w : World) (hlo : ∀ j, j < n → w.cell? ⟨b1, o1 + j, none⟩ = some (.int .i32 (lo j))) (hhi : ∀ j, j < n → w.cell? ⟨b2, o2 + j, none⟩ = some (.int .i32 (hi j)))
    (hb1 : b1 < w.heap.size) (hb2 : b2 < w.heap.size) (hn : n ≤ 1000000) (hpos : 0 < n) :
    Calls Try.prog 28 #[.slice (some ⟨b1, o1, none⟩) n c1, .slice (some ⟨b2, o2, none⟩) n c2] w fun e w' => ∃ g cap, e = .returned (.slice (some ⟨g, 0, none⟩) n cap) ∧
      w'.ownsRow w.heap.size 27 2 (.slice (some ⟨g, 0, none⟩) n cap) n (flatTo lo hi n) ∧ Below w.heap.size w w' := by
  obtain ⟨i0, hi0, hz0, hz1, hz2⟩ := info_parts info27
  go_enter Try.func28, Try.ntmps28
  go_wp2_with (at_make; refine wpList_make_own _ rfl _ _ 29 rfl w.heap.size 27 i0 _ 2 Try.underlying29 hi0 hz0 hz1 .i64 .i64 _ n rfl rfl (by omega) (by rw [hz2]; omega) (by unfold maxLen; omega) (Nat.le_refl _) ?_; intro w1 hown1 hgrow1)
  have hbel1 : Below w.heap.size w w1 := (Below.refl _ _).grown hgrow1 (Nat.le_refl _) (fun k h => by cases h)
  clear hgrow1
  go_loopw [5, 6] (fun v i wr => ∃ k : Nat, k ≤ n ∧ i = .int .i64 k ∧ wr.ownsRow w.heap.size 27 2 v k (flatTo lo hi k) ∧ Below w.heap.size w wr) (fun _ i _ => n - (intOf i).toNat)
  case atStart => exact ⟨0, Nat.zero_le _, rfl, hown1, hbel1⟩
  case round =>
    obtain ⟨k, hk, rfl, hown, hbel⟩ := hrel
    by_cases hlt : k < n
    · have z1 : wr.cell? ⟨b1, o1 + k, none⟩ = some (.int .i32 (lo k)) := (hbel.cell hb1).trans (hlo k hlt)
      have z2 : wr.cell? ⟨b2, o2 + k, none⟩ = some (.int .i32 (hi k)) := (hbel.cell hb2).trans (hhi k hlt)
      have y1 := hlo k hlt
      have y2 := hhi k hlt
      have hfl : Hid (flatTo lo hi (k + 1) = flatTo lo hi k ++ [.int .i32 (lo k), .int .i32 (hi k)]) := rfl
      generalize lo k = x at *
      generalize hi k = y at *
      have hk0 : (0 : Int) ≤ (k : Int) := Int.natCast_nonneg _
      have hk1 : (k : Int) < (n : Int) := by omega
      have hsz := hbel.size
      go_wp2_with fail
      go_region_held3 (fun w' => w'.cell? ⟨b1, o1 + k, none⟩ = some (.int .i32 x) ∧ w'.cell? ⟨b2, o2 + k, none⟩ = some (.int .i32 y)) (first | go_keep | exact ⟨(hbel2.cell hb1).trans y1, (hbel2.cell hb2).trans y2⟩)
        (first | (go_at_call 9; refine (mkRange_any _ _ _).mono ?_; rintro e w' ⟨rfl, rfl⟩) | (refine step_append_lies _ (by rfl) (.tmp 16) (.tmp 26) 29 (by rfl) w.heap.size 27 i0 _ 2 8 Try.underlying29 hi0 hz0 hz1 hz2 rfl (by omega) _ k _ (by rfl) (((hown.alloc _).alloc _).drew) ⟨wr.heap.size + 1, 0, none⟩ 1 1 [.int .i32 x, .int .i32 y] (by rfl) (by rfl) (news_at (wr.alloc (.cells #[.int .i32 x, .int .i32 y] 27)) _ #[.int .i32 x, .int .i32 y] 27 (by simp)) (by simp [Value.oneCell']) (by omega) (by unfold maxLen; omega) (by omega) (by simp; omega) (wr.heap.size + 2) (by simp) ?_; intro g cap w2 hown2 hgrow2 hat2 hlt2; have hbel2 : Below w.heap.size w w2 := (((hbel.alloc hsz _).alloc (by simp; omega) _).drew).grown hgrow2 (by simp; omega) (fun k hk => (hown.lt k hk).1)))
      go_wp2
      go_roundw
      case rel => exact ⟨k + 1, by omega, by go_num, by rw [hfl.out]; exact hown2, hbel2⟩
      case measure => simp [intOf]; omega
    · obtain rfl : k = n := by omega
      obtain ⟨g, cap, rfl, _, _⟩ := hown.form hpos
      go_wp2
      go_ret
      exact ⟨g, cap, rfl, hown, hbel⟩

end Go.Proofs.Qxb6613789a.Cs
