import Derived.Test.Qxb6613789aRp6
namespace Go.Proofs.Qxb6613789a.Rp
open Go.RowKit
attribute [local go_sem ↓] Go.wp_at_zero Go.wp_at_succ

theorem ptr_none (w : World) (d : Nat) : (Op.equalIn (d + 1) 24 (.pointer none) (.pointer none)).run Try.prog w = .ok true w := by
  simp [Op.equalIn, run_underlying Try.underlying24]
theorem ptr_same (w : World) (d : Nat) (a : Addr) : (Op.equalIn (d + 1) 24 (.pointer (some a)) (.pointer (some a))).run Try.prog w = .ok true w := by
  simp [Op.equalIn, run_underlying Try.underlying24, Try.sizeOf92, sameAddr]
attribute [local go_sem] ptr_none ptr_same
theorem charI_eq (S : Nat) (lo : Int) : charI S lo lo = { r := lo } := if_pos rfl
theorem charI_ne (S : Nat) {lo hi : Int} (h : ¬ lo = hi) : charI S lo hi = { set := some ⟨S, 0, none⟩ } := if_neg h

end Go.Proofs.Qxb6613789a.Rp
