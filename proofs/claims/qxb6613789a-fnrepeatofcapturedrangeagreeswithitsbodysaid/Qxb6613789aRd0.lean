import Derived.Test.Qxb6613789aRp2
namespace Go.Proofs.Qxb6613789a.Rp
open Go.RowKit
attribute [local go_sem ↓] Go.wp_at_zero Go.wp_at_succ

set_option maxRecDepth 100000 in
set_option maxHeartbeats 1000000 in
theorem outc_len (a : Option Addr) (n c : Nat) (loops grp lo hi mn mx : Int) (lz : Bool) (w : World) (h : (65536 : Int) < n) :
    Calls Try.prog 3 #[.slice a n c, .int .i64 loops, .int .i64 grp, .int .i32 lo, .int .i32 hi, .int .i64 mn, .int .i64 mx, .bool lz] w fun e w' => e = .returned (.bool true) ∧ Below w.heap.size w w' := by
  go_enter Try.func3, Try.ntmps3
  go_wp2_with fail
  refine (bytes7_any a n c loops grp lo hi mn mx lz w).mono ?_
  rintro e w' ⟨⟨b, rfl⟩, rfl⟩
  cases b
  · go_wp2_with fail
    go_ret
    exact ⟨rfl, Below.refl _ _⟩
  · go_wp2_with fail
    go_ret
    exact ⟨rfl, Below.refl _ _⟩

set_option maxRecDepth 100000 in
set_option maxHeartbeats 1000000 in
theorem outc_lo0 (a : Option Addr) (n c : Nat) (loops grp lo hi mn mx : Int) (lz : Bool) (w : World) (h : ¬ (65536 : Int) < n) (h1 : lo < 0) :
    Calls Try.prog 3 #[.slice a n c, .int .i64 loops, .int .i64 grp, .int .i32 lo, .int .i32 hi, .int .i64 mn, .int .i64 mx, .bool lz] w fun e w' => e = .returned (.bool true) ∧ Below w.heap.size w w' := by
  go_enter Try.func3, Try.ntmps3
  go_wp2_with fail
  refine (bytes7_any a n c loops grp lo hi mn mx lz w).mono ?_
  rintro e w' ⟨⟨b, rfl⟩, rfl⟩
  cases b
  · go_wp2_with fail
    go_ret
    exact ⟨rfl, Below.refl _ _⟩
  · go_wp2_with fail
    go_ret
    exact ⟨rfl, Below.refl _ _⟩

set_option maxRecDepth 100000 in
set_option maxHeartbeats 1000000 in
theorem outc_lo1 (a : Option Addr) (n c : Nat) (loops grp lo hi mn mx : Int) (lz : Bool) (w : World) (h : ¬ (65536 : Int) < n) (h1 : ¬ lo < 0) (h2 : 1114111 < lo) :
    Calls Try.prog 3 #[.slice a n c, .int .i64 loops, .int .i64 grp, .int .i32 lo, .int .i32 hi, .int .i64 mn, .int .i64 mx, .bool lz] w fun e w' => e = .returned (.bool true) ∧ Below w.heap.size w w' := by
  go_enter Try.func3, Try.ntmps3
  go_wp2_with fail
  refine (bytes7_any a n c loops grp lo hi mn mx lz w).mono ?_
  rintro e w' ⟨⟨b, rfl⟩, rfl⟩
  cases b
  · go_wp2_with fail
    go_ret
    exact ⟨rfl, Below.refl _ _⟩
  · go_wp2_with fail
    go_ret
    exact ⟨rfl, Below.refl _ _⟩

set_option maxRecDepth 100000 in
set_option maxHeartbeats 1000000 in
theorem outc_hi0 (a : Option Addr) (n c : Nat) (loops grp lo hi mn mx : Int) (lz : Bool) (w : World) (h : ¬ (65536 : Int) < n) (h1 : ¬ lo < 0) (h2 : ¬ 1114111 < lo) (h3 : hi < 0) :
    Calls Try.prog 3 #[.slice a n c, .int .i64 loops, .int .i64 grp, .int .i32 lo, .int .i32 hi, .int .i64 mn, .int .i64 mx, .bool lz] w fun e w' => e = .returned (.bool true) ∧ Below w.heap.size w w' := by
  go_enter Try.func3, Try.ntmps3
  go_wp2_with fail
  refine (bytes7_any a n c loops grp lo hi mn mx lz w).mono ?_
  rintro e w' ⟨⟨b, rfl⟩, rfl⟩
  cases b
  · go_wp2_with fail
    go_ret
    exact ⟨rfl, Below.refl _ _⟩
  · go_wp2_with fail
    go_ret
    exact ⟨rfl, Below.refl _ _⟩

set_option maxRecDepth 100000 in
set_option maxHeartbeats 1000000 in
theorem outc_hi1 (a : Option Addr) (n c : Nat) (loops grp lo hi mn mx : Int) (lz : Bool) (w : World) (h : ¬ (65536 : Int) < n) (h1 : ¬ lo < 0) (h2 : ¬ 1114111 < lo) (h3 : ¬ hi < 0) (h4 : 1114111 < hi) :
    Calls Try.prog 3 #[.slice a n c, .int .i64 loops, .int .i64 grp, .int .i32 lo, .int .i32 hi, .int .i64 mn, .int .i64 mx, .bool lz] w fun e w' => e = .returned (.bool true) ∧ Below w.heap.size w w' := by
  go_enter Try.func3, Try.ntmps3
  go_wp2_with fail
  refine (bytes7_any a n c loops grp lo hi mn mx lz w).mono ?_
  rintro e w' ⟨⟨b, rfl⟩, rfl⟩
  cases b
  · go_wp2_with fail
    go_ret
    exact ⟨rfl, Below.refl _ _⟩
  · go_wp2_with fail
    go_ret
    exact ⟨rfl, Below.refl _ _⟩

end Go.Proofs.Qxb6613789a.Rp
