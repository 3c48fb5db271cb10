import Derived.Test.Qxb6613789aRd0
import Derived.Test.Qxb6613789aRd4
import Derived.Test.Qxb6613789aRd5
import Derived.Test.Qxb6613789aRd6
import Derived.Test.Qxb6613789aRd7
namespace Go.Proofs.Qxb6613789a.Rp
open Go.RowKit
theorem law3_any (a : Option Addr) (n c : Nat) (loops grp lo hi mn mx : Int) (lz : Bool) (w : World) (f : Nat → Int) (hops : Ops w a n f) :
    Calls Try.prog 3 #[.slice a n c, .int .i64 loops, .int .i64 grp, .int .i32 lo, .int .i32 hi, .int .i64 mn, .int .i64 mx, .bool lz] w fun e w' => e = .returned (.bool true) ∧ Below w.heap.size w w' := by
  by_cases t0 : (65536 : Int) < n
  · exact outc_len a n c loops grp lo hi mn mx lz w t0
  by_cases t1 : lo < 0
  · exact outc_lo0 a n c loops grp lo hi mn mx lz w t0 t1
  by_cases t2 : 1114111 < lo
  · exact outc_lo1 a n c loops grp lo hi mn mx lz w t0 t1 t2
  by_cases t3 : hi < 0
  · exact outc_hi0 a n c loops grp lo hi mn mx lz w t0 t1 t2 t3
  by_cases t4 : 1114111 < hi
  · exact outc_hi1 a n c loops grp lo hi mn mx lz w t0 t1 t2 t3 t4
  by_cases he : lo = hi
  · subst he
    by_cases hs : Small mn mx
    · exact lawc_eqS a n c f loops grp lo mn mx lz w hops (by omega) (by omega) (by omega) hs
    · exact lawc_eqL a n c f loops grp lo mn mx lz w hops (by omega) (by omega) (by omega) hs
  · by_cases hs : Small mn mx
    · exact lawc_neS a n c f loops grp lo hi mn mx lz w hops (by omega) (by omega) (by omega) (by omega) (by omega) he hs
    · exact lawc_neL a n c f loops grp lo hi mn mx lz w hops (by omega) (by omega) (by omega) (by omega) (by omega) he hs
end Go.Proofs.Qxb6613789a.Rp
