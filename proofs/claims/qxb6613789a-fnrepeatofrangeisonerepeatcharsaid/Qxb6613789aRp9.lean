import Derived.Test.Qxb6613789aRp7
import Derived.Test.Qxb6613789aRp8
namespace Go.Proofs.Qxb6613789a.Rp
open Go.RowKit
attribute [local go_sem ↓] Go.wp_at_zero Go.wp_at_succ

set_option maxRecDepth 100000 in
set_option maxHeartbeats 1000000 in
theorem out_len (a : Option Addr) (n c : Nat) (loops lo hi mn mx : Int) (lz : Bool) (w : World) (h : (65536 : Int) < n) :
    Calls Try.prog 4 #[.slice a n c, .int .i64 loops, .int .i32 lo, .int .i32 hi, .int .i64 mn, .int .i64 mx, .bool lz] w fun e w' => e = .returned (.bool true) ∧ Below w.heap.size w w' := by
  go_enter Try.func4, Try.ntmps4
  go_wp2_with fail
  refine (bytes20_any a n c loops lo hi mn mx lz w).mono ?_
  rintro e w' ⟨⟨b, rfl⟩, rfl⟩
  cases b
  · go_wp2_with fail
    go_ret
    exact ⟨rfl, Below.refl _ _⟩
  · go_wp2_with fail
    go_ret
    exact ⟨rfl, Below.refl _ _⟩

set_option maxRecDepth 100000 in
set_option maxHeartbeats 1000000 in
theorem out_lo0 (a : Option Addr) (n c : Nat) (loops lo hi mn mx : Int) (lz : Bool) (w : World) (h : ¬ (65536 : Int) < n) (h1 : lo < 0) :
    Calls Try.prog 4 #[.slice a n c, .int .i64 loops, .int .i32 lo, .int .i32 hi, .int .i64 mn, .int .i64 mx, .bool lz] w fun e w' => e = .returned (.bool true) ∧ Below w.heap.size w w' := by
  go_enter Try.func4, Try.ntmps4
  go_wp2_with fail
  refine (bytes20_any a n c loops lo hi mn mx lz w).mono ?_
  rintro e w' ⟨⟨b, rfl⟩, rfl⟩
  cases b
  · go_wp2_with fail
    go_ret
    exact ⟨rfl, Below.refl _ _⟩
  · go_wp2_with fail
    go_ret
    exact ⟨rfl, Below.refl _ _⟩

set_option maxRecDepth 100000 in
set_option maxHeartbeats 1000000 in
theorem out_lo1 (a : Option Addr) (n c : Nat) (loops lo hi mn mx : Int) (lz : Bool) (w : World) (h : ¬ (65536 : Int) < n) (h1 : ¬ lo < 0) (h2 : 1114111 < lo) :
    Calls Try.prog 4 #[.slice a n c, .int .i64 loops, .int .i32 lo, .int .i32 hi, .int .i64 mn, .int .i64 mx, .bool lz] w fun e w' => e = .returned (.bool true) ∧ Below w.heap.size w w' := by
  go_enter Try.func4, Try.ntmps4
  go_wp2_with fail
  refine (bytes20_any a n c loops lo hi mn mx lz w).mono ?_
  rintro e w' ⟨⟨b, rfl⟩, rfl⟩
  cases b
  · go_wp2_with fail
    go_ret
    exact ⟨rfl, Below.refl _ _⟩
  · go_wp2_with fail
    go_ret
    exact ⟨rfl, Below.refl _ _⟩

set_option maxRecDepth 100000 in
set_option maxHeartbeats 1000000 in
theorem out_hi0 (a : Option Addr) (n c : Nat) (loops lo hi mn mx : Int) (lz : Bool) (w : World) (h : ¬ (65536 : Int) < n) (h1 : ¬ lo < 0) (h2 : ¬ 1114111 < lo) (h3 : hi < 0) :
    Calls Try.prog 4 #[.slice a n c, .int .i64 loops, .int .i32 lo, .int .i32 hi, .int .i64 mn, .int .i64 mx, .bool lz] w fun e w' => e = .returned (.bool true) ∧ Below w.heap.size w w' := by
  go_enter Try.func4, Try.ntmps4
  go_wp2_with fail
  refine (bytes20_any a n c loops lo hi mn mx lz w).mono ?_
  rintro e w' ⟨⟨b, rfl⟩, rfl⟩
  cases b
  · go_wp2_with fail
    go_ret
    exact ⟨rfl, Below.refl _ _⟩
  · go_wp2_with fail
    go_ret
    exact ⟨rfl, Below.refl _ _⟩

set_option maxRecDepth 100000 in
set_option maxHeartbeats 1000000 in
theorem out_hi1 (a : Option Addr) (n c : Nat) (loops lo hi mn mx : Int) (lz : Bool) (w : World) (h : ¬ (65536 : Int) < n) (h1 : ¬ lo < 0) (h2 : ¬ 1114111 < lo) (h3 : ¬ hi < 0) (h4 : 1114111 < hi) :
    Calls Try.prog 4 #[.slice a n c, .int .i64 loops, .int .i32 lo, .int .i32 hi, .int .i64 mn, .int .i64 mx, .bool lz] w fun e w' => e = .returned (.bool true) ∧ Below w.heap.size w w' := by
  go_enter Try.func4, Try.ntmps4
  go_wp2_with fail
  refine (bytes20_any a n c loops lo hi mn mx lz w).mono ?_
  rintro e w' ⟨⟨b, rfl⟩, rfl⟩
  cases b
  · go_wp2_with fail
    go_ret
    exact ⟨rfl, Below.refl _ _⟩
  · go_wp2_with fail
    go_ret
    exact ⟨rfl, Below.refl _ _⟩

theorem law4_any (a : Option Addr) (n c : Nat) (loops lo hi mn mx : Int) (lz : Bool) (w : World) (f : Nat → Int) (hops : Ops w a n f) :
    Calls Try.prog 4 #[.slice a n c, .int .i64 loops, .int .i32 lo, .int .i32 hi, .int .i64 mn, .int .i64 mx, .bool lz] w fun e w' => e = .returned (.bool true) ∧ Below w.heap.size w w' := by
  by_cases t0 : (65536 : Int) < n
  · exact out_len a n c loops lo hi mn mx lz w t0
  by_cases t1 : lo < 0
  · exact out_lo0 a n c loops lo hi mn mx lz w t0 t1
  by_cases t2 : 1114111 < lo
  · exact out_lo1 a n c loops lo hi mn mx lz w t0 t1 t2
  by_cases t3 : hi < 0
  · exact out_hi0 a n c loops lo hi mn mx lz w t0 t1 t2 t3
  by_cases t4 : 1114111 < hi
  · exact out_hi1 a n c loops lo hi mn mx lz w t0 t1 t2 t3 t4
  by_cases he : lo = hi
  · subst he
    exact law_eq a n c f loops lo mn mx lz w hops (by omega) (by omega) (by omega)
  · exact law_ne a n c f loops lo hi mn mx lz w hops (by omega) (by omega) (by omega) (by omega) (by omega) he
end Go.Proofs.Qxb6613789a.Rp
