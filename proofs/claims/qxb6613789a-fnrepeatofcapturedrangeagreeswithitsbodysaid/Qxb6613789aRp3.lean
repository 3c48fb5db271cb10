import Derived.Test.Qxb6613789aRp2
namespace Go.Proofs.Qxb6613789a.Rp
open Go.RowKit
attribute [local go_sem ↓] Go.wp_at_zero Go.wp_at_succ

/-- What a view of an instruction looks like. -/
def In.view (i : In) : Value := .agg #[.int .u8 i.op, .int .i64 i.x, .int .i64 i.y, .int .i64 i.n, .pointer i.set, .int .i32 i.r, .int .i64 i.min, .int .i64 i.max, .bool i.lazy, .int .u8 0, .bool false, .bool false, .bool false, .bool false, .int .i64 0, .int .i32 0]

set_option maxRecDepth 100000 in
set_option maxHeartbeats 2000000 in
theorem view_any (C base : Nat) (v : Value) (is : List In) (L : Int) (j : Nat) (hj : j < is.length) (hn : is.length ≤ 100000) (w : World) (h : Comp w C base v is L) :
    Calls Try.prog 17 #[.pointer (some ⟨C, 0, none⟩), .int .i64 j] w fun e w' => e = .returned (is[j]).view ∧ ∃ o1 o2, (w.alloc o1).alloc o2 = w' := by
  have c0 : w.cell? ⟨C, 0, none⟩ = some v := by rw [cell_of_row w C 0 _ _ (0, 0) h.blk]; rfl
  have hCs := block_lt h.blk
  obtain ⟨g, cap, rfl, _, hgw⟩ := h.own.form (by omega)
  have hcell : ∀ c, c < 16 → w.cell? ⟨g, j * 16 + c, none⟩ = (is[j]).vals[c]? := fun c hc => (h.own.cellAt (j * 16 + c) (by omega)).trans (flatI_get is j hj c hc)
  clear h
  have hj1 : (j : Int) < (is.length : Int) := by omega
  generalize is[j] = i at *
  have k0 : w.cell? ⟨g, j * 16, none⟩ = some (.int .u8 i.op) := (hcell 0 (by omega)).trans rfl
  have k1 : w.cell? ⟨g, j * 16 + 1, none⟩ = some (.int .i64 i.x) := (hcell 1 (by omega)).trans rfl
  have k2 : w.cell? ⟨g, j * 16 + 2, none⟩ = some (.int .i64 i.y) := (hcell 2 (by omega)).trans rfl
  have k3 : w.cell? ⟨g, j * 16 + 3, none⟩ = some (.int .i64 i.n) := (hcell 3 (by omega)).trans rfl
  have k4 : w.cell? ⟨g, j * 16 + 4, none⟩ = some (.pointer i.set) := (hcell 4 (by omega)).trans rfl
  have k5 : w.cell? ⟨g, j * 16 + 5, none⟩ = some (.int .i32 i.r) := (hcell 5 (by omega)).trans rfl
  have k6 : w.cell? ⟨g, j * 16 + 6, none⟩ = some (.int .i64 i.min) := (hcell 6 (by omega)).trans rfl
  have k7 : w.cell? ⟨g, j * 16 + 7, none⟩ = some (.int .i64 i.max) := (hcell 7 (by omega)).trans rfl
  have k8 : w.cell? ⟨g, j * 16 + 8, none⟩ = some (.bool i.lazy) := (hcell 8 (by omega)).trans rfl
  have k9 : w.cell? ⟨g, j * 16 + 9, none⟩ = some (.int .u8 0) := (hcell 9 (by omega)).trans rfl
  have k10 : w.cell? ⟨g, j * 16 + 10, none⟩ = some (.bool false) := (hcell 10 (by omega)).trans rfl
  have k11 : w.cell? ⟨g, j * 16 + 11, none⟩ = some (.bool false) := (hcell 11 (by omega)).trans rfl
  have k12 : w.cell? ⟨g, j * 16 + 12, none⟩ = some (.bool false) := (hcell 12 (by omega)).trans rfl
  have k13 : w.cell? ⟨g, j * 16 + 13, none⟩ = some (.bool false) := (hcell 13 (by omega)).trans rfl
  have k14 : w.cell? ⟨g, j * 16 + 14, none⟩ = some (.slice none 0 0) := (hcell 14 (by omega)).trans rfl
  have k15 : w.cell? ⟨g, j * 16 + 15, none⟩ = some (.int .i32 0) := (hcell 15 (by omega)).trans rfl
  clear hcell
  generalize is.length = n at *
  go_enter Try.func17, Try.ntmps17
  go_wp2_with fail
  exact bodyPost_ret (v := .agg #[.int .u8 i.op, .int .i64 i.x, .int .i64 i.y, .int .i64 i.n, .pointer i.set, .int .i32 i.r, .int .i64 i.min, .int .i64 i.max, .bool i.lazy, .int .u8 0, .bool false, .bool false, .bool false, .bool false, .int .i64 0, .int .i32 0]) (by simp [results, Try.results17, go_sem]) rfl ⟨rfl, _, _, rfl⟩

end Go.Proofs.Qxb6613789a.Rp
