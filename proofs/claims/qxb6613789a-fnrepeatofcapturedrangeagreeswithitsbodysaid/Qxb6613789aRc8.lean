import Derived.Test.Qxb6613789aRc7
namespace Go.Proofs.Qxb6613789a.Rp
open Go.RowKit
attribute [local go_sem] ptr_eq

set_option maxRecDepth 100000 in
set_option maxHeartbeats 4000000 in
/-- Two views that are one: not unequal. -/
theorem view_neq (w : World) (op x y n : Int) (set : Option Addr) (r mn mx : Int) (lz : Bool) :
    (binOp .neq 42 (.agg #[.int .u8 op, .int .i64 x, .int .i64 y, .int .i64 n, .pointer set, .int .i32 r, .int .i64 mn, .int .i64 mx, .bool lz, .int .u8 0, .bool false, .bool false, .bool false, .bool false, .int .i64 0, .int .i32 0])
      (.agg #[.int .u8 op, .int .i64 x, .int .i64 y, .int .i64 n, .pointer set, .int .i32 r, .int .i64 mn, .int .i64 mx, .bool lz, .int .u8 0, .bool false, .bool false, .bool false, .bool false, .int .i64 0, .int .i32 0])).run Try.prog w = .ok (.bool false) w := by
  go_simp
end Go.Proofs.Qxb6613789a.Rp
