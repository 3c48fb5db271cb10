import Derived.Test.Qxb6613789aRc4
import Derived.Test.Qxb6613789aRc5
import Derived.Test.Qxb6613789aRp7a
namespace Go.Proofs.Qxb6613789a.Rp
open Go.RowKit

theorem ptr_eq (w : World) (d : Nat) (p : Option Addr) : (Op.equalIn (d + 1) 24 (.pointer p) (.pointer p)).run Try.prog w = .ok true w := by
  cases p with
  | none => exact ptr_none w d
  | some a => exact ptr_same w d a

/-- A view, at a number that is known to be a place. -/
theorem view_at (C base : Nat) (v : Value) (is : List In) (L : Int) (j : Nat) (z : Int) (hz : z = (j : Int)) (i : In) (hj : is[j]? = some i) (hn : is.length ≤ 100000) (w : World) (h : Comp w C base v is L) :
    Calls Try.prog 17 #[.pointer (some ⟨C, 0, none⟩), .int .i64 z] w fun e w' => e = .returned (.agg #[.int .u8 i.op, .int .i64 i.x, .int .i64 i.y, .int .i64 i.n, .pointer i.set, .int .i32 i.r, .int .i64 i.min, .int .i64 i.max, .bool i.lazy, .int .u8 0, .bool false, .bool false, .bool false, .bool false, .int .i64 0, .int .i32 0]) ∧ ∃ o1 o2, (w.alloc o1).alloc o2 = w' := by
  subst hz
  exact view_is C base v is L j i hj hn w h

/-- The cells of a view. -/
def In.seen (i : In) : List Value := [.int .u8 i.op, .int .i64 i.x, .int .i64 i.y, .int .i64 i.n, .pointer i.set, .int .i32 i.r, .int .i64 i.min, .int .i64 i.max, .bool i.lazy, .int .u8 0, .bool false, .bool false, .bool false, .bool false, .int .i64 0, .int .i32 0]
def seenRow (tl : List In) : List Value := tl.flatMap In.seen
theorem seenRow_get (tl : List In) (t : Nat) (i : In) (ht : tl[t]? = some i) (c : Nat) (hc : c < 16) : (seenRow tl)[t * 16 + c]? = i.seen[c]? := by
  induction tl generalizing t with
  | nil => simp at ht
  | cons a m ih =>
    have e : seenRow (a :: m) = a.seen ++ seenRow m := rfl
    have hl : a.seen.length = 16 := rfl
    cases t with
    | zero =>
      simp at ht
      subst ht
      rw [e, Nat.zero_mul, Nat.zero_add, List.getElem?_append_left (by omega)]
    | succ t =>
      rw [e, List.getElem?_append_right (by omega), hl, show (t + 1) * 16 + c - 16 = t * 16 + c by omega, ih t (by simpa using ht)]
/-- The row of views that is wanted. -/
theorem want_cell {w : World} {D : Nat} {tl : List In} (h : w.heap[D]? = some (.cells (seenRow tl).toArray 42)) (t : Nat) (i : In) (ht : tl[t]? = some i) (c : Nat) (hc : c < 16) : w.cell? ⟨D, t * 16 + c, none⟩ = i.seen[c]? := by
  rw [cell_of_row w D _ _ _ (0, 0) h, ← seenRow_get tl t i ht c hc]
  simp
theorem opsI_past (f : Nat → Int) (n t : Nat) (tl : List In) : (opsI f n ++ tl)[n + t]? = tl[t]? := by
  rw [List.getElem?_append_right (by rw [opsI_length]; omega), opsI_length, show n + t - n = t by omega]
end Go.Proofs.Qxb6613789a.Rp
