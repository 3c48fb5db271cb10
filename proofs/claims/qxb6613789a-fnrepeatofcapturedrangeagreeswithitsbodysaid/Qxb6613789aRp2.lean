import Derived.Test.Qxb6613789aRp1
namespace Go.Proofs.Qxb6613789a.Rp
open Go.RowKit
attribute [local go_sem ↓] Go.wp_at_zero Go.wp_at_succ

def SomeBool (e : Ending) : Prop := ∃ r, e = .returned (.bool r)

set_option maxHeartbeats 400000 in
theorem bytes20_any (a : Option Addr) (n c : Nat) (x1 x2 x3 x4 x5 : Int) (z : Bool) (w : World) :
    Calls Try.prog 20 #[.slice a n c, .int .i64 x1, .int .i32 x2, .int .i32 x3, .int .i64 x4, .int .i64 x5, .bool z] w fun e w' => SomeBool e ∧ w = w' := by
  by_cases h1 : n ≤ 1048576
  · go_enter Try.func20, Try.ntmps20
    go_wp2
    go_ret
    exact ⟨⟨_, rfl⟩, rfl⟩
  · go_enter Try.func20, Try.ntmps20
    go_wp2
    go_ret
    exact ⟨⟨_, rfl⟩, rfl⟩

set_option maxHeartbeats 400000 in
theorem bytes7_any (a : Option Addr) (n c : Nat) (x1 x6 x2 x3 x4 x5 : Int) (z : Bool) (w : World) :
    Calls Try.prog 7 #[.slice a n c, .int .i64 x1, .int .i64 x6, .int .i32 x2, .int .i32 x3, .int .i64 x4, .int .i64 x5, .bool z] w fun e w' => SomeBool e ∧ w = w' := by
  by_cases h1 : n ≤ 1048576
  · go_enter Try.func7, Try.ntmps7
    go_wp2
    go_ret
    exact ⟨⟨_, rfl⟩, rfl⟩
  · go_enter Try.func7, Try.ntmps7
    go_wp2
    go_ret
    exact ⟨⟨_, rfl⟩, rfl⟩

set_option maxHeartbeats 400000 in
theorem mkInst_any (op : Int) (w : World) :
    Calls Try.prog 32 #[.int .u8 op, .int .i64 0, .int .i64 0, .int .i64 0, .int .i32 0, .int .i64 0, .int .i64 0, .bool false] w fun e w' => e = .returned (.agg #[.int .u8 op, .int .i64 0, .int .i64 0, .int .i64 0, .pointer none, .int .i32 0, .int .i64 0, .int .i64 0, .bool false, .int .u8 0, .bool false, .bool false, .bool false, .bool false, .slice none 0 0, .int .i32 0]) ∧ w.alloc (.cells #[.int .u8 op, .int .i64 0, .int .i64 0, .int .i64 0, .pointer none, .int .i32 0, .int .i64 0, .int .i64 0, .bool false, .int .u8 0, .bool false, .bool false, .bool false, .bool false, .slice none 0 0, .int .i32 0] 70) = w' := by
  go_enter Try.func32, Try.ntmps32
  go_wp2
  exact bodyPost_ret (v := .agg #[.int .u8 op, .int .i64 0, .int .i64 0, .int .i64 0, .pointer none, .int .i32 0, .int .i64 0, .int .i64 0, .bool false, .int .u8 0, .bool false, .bool false, .bool false, .bool false, .slice none 0 0, .int .i32 0]) (by simp [results, Try.results32, go_sem]) rfl ⟨rfl, rfl⟩

/-- The instructions of the opening program. -/
def opsI (f : Nat → Int) (k : Nat) : List In := (List.range k).map fun j => { op := f j }
theorem opsI_length (f : Nat → Int) (k : Nat) : (opsI f k).length = k := by simp [opsI]
theorem opsI_succ (f : Nat → Int) (k : Nat) : opsI f (k + 1) = opsI f k ++ [{ op := f k }] := by simp [opsI, List.range_succ]

set_option maxRecDepth 100000 in
set_option maxHeartbeats 1000000 in
theorem build_pos (b o c n : Nat) (f : Nat → Int) (w : World) (hc : ∀ j, j < n → w.cell? ⟨b, o + j, none⟩ = some (.int .u8 (f j))) (hpos : 0 < n) (hn : n ≤ 65536) :
    Calls Try.prog 13 #[.slice (some ⟨b, o, none⟩) n c, .slice none 0 0] w fun e w' => ∃ v, e = .returned v ∧ w'.ownsRow w.heap.size 70 16 v n (flatI (opsI f n)) ∧ Below w.heap.size w w' := by
  obtain ⟨i0, hi0, hz0, hz1, hz2⟩ := info_parts info70
  have hb : b < w.heap.size := by
    rcases Nat.lt_or_ge b w.heap.size with h | h
    · exact h
    · have := hc 0 hpos; simp [World.cell?, Array.getElem?_eq_none h] at this
  have HC : Hid (∀ j, j < n → w.cell? ⟨b, o + j, none⟩ = some (.int .u8 (f j))) := hc
  clear hc
  go_enter Try.func13, Try.ntmps13
  go_wp2_with (at_make; refine wpList_make_own _ rfl _ _ 35 rfl w.heap.size 70 i0 _ 16 Try.underlying35 hi0 hz0 hz1 .i64 .i64 _ n rfl rfl (by omega) (by rw [hz2]; omega) (by unfold maxLen; omega) (Nat.le_refl _) ?_; intro w1 hown1 hgrow1)
  have hbel1 : Below w.heap.size w w1 := (Below.refl _ _).grown hgrow1 (Nat.le_refl _) (fun k h => by cases h)
  clear hgrow1
  go_loopw [5, 6] (fun v i wr => ∃ k : Nat, k ≤ n ∧ i = .int .i64 k ∧ wr.ownsRow w.heap.size 70 16 v k (flatI (opsI f k)) ∧ Below w.heap.size w wr) (fun _ i _ => n - (intOf i).toNat)
  case atStart => exact ⟨0, Nat.zero_le _, rfl, hown1, hbel1⟩
  case round =>
    obtain ⟨k, hk, rfl, hown, hbel⟩ := hrel
    by_cases hlt : k < n
    · have z1 : wr.cell? ⟨b, o + k, none⟩ = some (.int .u8 (f k)) := (hbel.cell hb).trans (HC.out k hlt)
      have hfl : Hid (flatI (opsI f (k + 1)) = flatI (opsI f k) ++ In.vals { op := f k }) := by rw [opsI_succ, flatI_snoc]; rfl
      generalize f k = x at *
      have hk1 : (k : Int) < (n : Int) := by omega
      have hsz := hbel.size
      go_wp2_with fail
      refine (mkInst_any x wr).mono ?_
      rintro e w' ⟨rfl, rfl⟩
      go_wp2_with (at_builtin; refine wpList_append_lies _ rfl (.tmp 25) (.tmp 32) 35 rfl w.heap.size 70 i0 _ 16 104 Try.underlying35 hi0 hz0 hz1 hz2 rfl (by omega) _ k _ rfl ((hown.alloc _).alloc _) ⟨wr.heap.size + 1, 0, none⟩ 1 1 (In.vals { op := x }) rfl (by rfl) (news_at _ _ (In.arr { op := x }) 70 (by simp)) (In.vals_one _) (by omega) (by unfold maxLen; omega) (by omega) (by simp; omega) (wr.heap.size + 2) (by simp) ?_; intro g cap w2 hown2 hgrow2 hat2 hlt2)
      have hbel2 : Below w.heap.size w w2 := ((hbel.alloc hsz _).alloc (by simp; omega) _).grown hgrow2 (by simp; omega) (fun k hk => (hown.lt k hk).1)
      go_wp2_with fail
      go_roundw
      case rel => exact ⟨k + 1, by omega, by go_num, by rw [hfl.out]; exact hown2, hbel2⟩
      case measure => simp [intOf]; omega
    · obtain rfl : k = n := by omega
      go_wp2_with fail
      go_ret
      exact ⟨_, rfl, hown, hbel⟩

set_option maxRecDepth 100000 in
set_option maxHeartbeats 1000000 in
theorem build_none (a : Option Addr) (c : Nat) (f : Nat → Int) (w : World) :
    Calls Try.prog 13 #[.slice a 0 c, .slice none 0 0] w fun e w' => ∃ v, e = .returned v ∧ w'.ownsRow w.heap.size 70 16 v 0 (flatI (opsI f 0)) ∧ Below w.heap.size w w' := by
  obtain ⟨i0, hi0, hz0, hz1, hz2⟩ := info_parts info70
  go_enter Try.func13, Try.ntmps13
  go_wp2_with (at_make; refine wpList_make_own _ rfl _ _ 35 rfl w.heap.size 70 i0 _ 16 Try.underlying35 hi0 hz0 hz1 .i64 .i64 _ 0 rfl rfl (by omega) (by omega) (by unfold maxLen; omega) (Nat.le_refl _) ?_; intro w1 hown1 hgrow1)
  have hbel1 : Below w.heap.size w w1 := (Below.refl _ _).grown hgrow1 (Nat.le_refl _) (fun k h => by cases h)
  clear hgrow1
  refine wp_loop_rounds 1 ?_
  rw [rounds_succ]
  go_wp2_with fail
  go_ret
  exact ⟨_, rfl, hown1, hbel1⟩

/-- The opcodes that came in. -/
def Ops (w : World) (a : Option Addr) (n : Nat) (f : Nat → Int) : Prop := n = 0 ∨ ∃ b o, a = some ⟨b, o, none⟩ ∧ ∀ j, j < n → w.cell? ⟨b, o + j, none⟩ = some (.int .u8 (f j))

theorem build_any (a : Option Addr) (n c : Nat) (f : Nat → Int) (w : World) (h : Ops w a n f) (hn : n ≤ 65536) :
    Calls Try.prog 13 #[.slice a n c, .slice none 0 0] w fun e w' => ∃ v, e = .returned v ∧ w'.ownsRow w.heap.size 70 16 v (opsI f n).length (flatI (opsI f n)) ∧ Below w.heap.size w w' := by
  rw [opsI_length]
  by_cases h0 : n = 0
  · subst h0; exact build_none a c f w
  · rcases h with h | ⟨b, o, rfl, hc⟩
    · exact absurd h h0
    · exact build_pos b o c n f w hc (by omega) hn

set_option maxHeartbeats 400000 in
theorem newComp_any (ao : Option Addr) (n cap : Nat) (L : Int) (w : World) :
    Calls Try.prog 12 #[.slice ao n cap, .int .i64 L] w fun e w' => e = .returned (.pointer (some ⟨w.heap.size, 0, none⟩)) ∧ w.alloc (.cells #[.slice ao n cap, .int .i64 L] 67) = w' := by
  go_enter Try.func12, Try.ntmps12
  go_wp2
  go_ret
  exact ⟨rfl, rfl⟩

set_option maxHeartbeats 400000 in
theorem progLen_any (C base : Nat) (v : Value) (is : List In) (L : Int) (w : World) (h : Comp w C base v is L) :
    Calls Try.prog 15 #[.pointer (some ⟨C, 0, none⟩)] w fun e w' => e = .returned (.int .i64 is.length) ∧ w = w' := by
  have c0 : w.cell? ⟨C, 0, none⟩ = some v := by rw [cell_of_row w C 0 _ _ (0, 0) h.blk]; rfl
  obtain ⟨ao, cap, rfl⟩ : ∃ ao cap, v = .slice ao is.length cap := by
    rcases h.own.2 with ⟨rfl, h0⟩ | ⟨g, cap, cur, rfl, _⟩
    · exact ⟨_, _, by rw [h0]⟩
    · exact ⟨_, _, rfl⟩
  go_enter Try.func15, Try.ntmps15
  go_wp2
  go_ret
  exact ⟨rfl, rfl⟩

set_option maxHeartbeats 400000 in
theorem loops_any (C base : Nat) (v : Value) (is : List In) (L : Int) (w : World) (h : Comp w C base v is L) :
    Calls Try.prog 16 #[.pointer (some ⟨C, 0, none⟩)] w fun e w' => e = .returned (.int .i64 L) ∧ w = w' := by
  have c1 : w.cell? ⟨C, 1, none⟩ = some (.int .i64 L) := by rw [cell_of_row w C 1 _ _ (0, 0) h.blk]; rfl
  go_enter Try.func16, Try.ntmps16
  go_wp2
  go_ret
  exact ⟨rfl, rfl⟩

end Go.Proofs.Qxb6613789a.Rp
