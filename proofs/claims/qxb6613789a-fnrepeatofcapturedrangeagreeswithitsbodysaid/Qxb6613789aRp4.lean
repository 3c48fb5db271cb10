import Derived.Test.Qxb6613789aRp2
namespace Go.Proofs.Qxb6613789a.Rp
open Go.RowKit
attribute [local go_sem ↓] Go.wp_at_zero Go.wp_at_succ

theorem Comp.alloc {w : World} {C base : Nat} {v : Value} {is : List In} {L : Int} (h : Comp w C base v is L) (o : Obj) : Comp (w.alloc o) C base v is L :=
  ⟨(Below.heap_alloc w o C (block_lt h.blk)).trans h.blk, h.own.alloc o⟩
theorem Comp.drewN {w : World} {C base : Nat} {v : Value} {is : List In} {L : Int} (h : Comp w C base v is L) (q : Nat) : Comp (w.drewN q) C base v is L := ⟨h.blk, h.own⟩
theorem Comp.heap {w w' : World} {C base : Nat} {v : Value} {is : List In} {L : Int} (h : Comp w C base v is L) (e : w'.heap = w.heap) : Comp w' C base v is L := by
  refine ⟨by rw [e]; exact h.blk, ?_⟩
  have := h.own
  unfold World.ownsRow at *
  rw [e]
  exact this

theorem Comp.setOther {w : World} {C base : Nat} {v : Value} {is : List In} {L : Int} (h : Comp w C base v is L) {a : Addr} (h1 : C ≠ a.block) (h2 : v.ownBlock ≠ some a.block) (u : Value) : Comp (w.setCell a u) C base v is L :=
  ⟨(Below.heap_setCell _ _ _ _ h1).trans h.blk, own_setCell_other h.own h2 u⟩
theorem Comp.far {w : World} {C base : Nat} {v : Value} {is : List In} {L : Int} (h : Comp w C base v is L) {k : Nat} (hk : w.heap.size ≤ k) : C ≠ k ∧ v.ownBlock ≠ some k :=
  ⟨by have := block_lt h.blk; omega, fun e => by have := (h.own.lt k e).2; omega⟩
theorem Kept.setNew {w w1 : World} {C : Nat} (h : Kept w w1 C) {a : Addr} (ha : w.heap.size ≤ a.block) (u : Value) : Kept w (w1.setCell a u) C :=
  fun k cs t h1 h2 h3 => (Below.heap_setCell _ _ _ _ (by have := block_lt h3; omega)).trans (h k cs t h1 h2 h3)
theorem Kept.alloc {w w1 : World} {C : Nat} (h : Kept w w1 C) (o : Obj) : Kept w (w1.alloc o) C := h.trans (Kept.of_alloc w1 C o)
theorem Kept.drewN {w w1 : World} {C : Nat} (h : Kept w w1 C) (q : Nat) : Kept w (w1.drewN q) C := h
theorem below_drewN {B : Nat} {a w : World} (h : Below B a w) (n : Nat) : Below B a (w.drewN n) := h.trans ⟨rfl, rfl, rfl, Nat.le_refl _, fun _ _ => rfl⟩
theorem heap_alloc2 (w : World) (o1 o2 : Obj) : ((w.alloc o1).alloc o2).heap[w.heap.size + 1]? = some o2 := by
  have := heap_alloc_new (w.alloc o1) o2
  simpa using this

/-! ### Nodes -/
def CharsAt (w : World) (N S : Nat) : Prop := w.heap[N]? = some (.cells #[.int .u8 1, .pointer (some ⟨S, 0, none⟩), .slice none 0 0, .int .i64 0, .int .i64 0, .bool false, .int .i64 0, .int .u8 0, .bool false, .bool false, .bool false] 65)
def CapAt (w : World) (N N' : Nat) (grp : Int) : Prop := ∃ M, w.heap[N]? = some (.cells #[.int .u8 5, .pointer none, .slice (some ⟨M, 0, none⟩) 1 1, .int .i64 0, .int .i64 0, .bool false, .int .i64 grp, .int .u8 0, .bool false, .bool false, .bool false] 65) ∧ w.heap[M]? = some (.cells #[.pointer (some ⟨N', 0, none⟩)] 30)
def RepAt (w : World) (N N' : Nat) (mn mx : Int) (lz : Bool) : Prop := ∃ M, w.heap[N]? = some (.cells #[.int .u8 4, .pointer none, .slice (some ⟨M, 0, none⟩) 1 1, .int .i64 mn, .int .i64 mx, .bool lz, .int .i64 0, .int .u8 0, .bool false, .bool false, .bool false] 65) ∧ w.heap[M]? = some (.cells #[.pointer (some ⟨N', 0, none⟩)] 30)
theorem CharsAt.kept {w w' : World} {C N S : Nat} (h : CharsAt w N S) (hk : Kept w w' C) (hN : N ≠ C) : CharsAt w' N S := hk _ _ _ hN (by decide) h
theorem CapAt.kept {w w' : World} {C N N' : Nat} {grp : Int} (h : CapAt w N N' grp) (hk : Kept w w' C) (hc : ∃ v L, w.heap[C]? = some (.cells #[v, .int .i64 L] 67)) : CapAt w' N N' grp := by
  obtain ⟨M, h1, h2⟩ := h
  obtain ⟨v, L, hc⟩ := hc
  refine ⟨M, hk _ _ _ ?_ (by decide) h1, hk _ _ _ ?_ (by decide) h2⟩
  · rintro rfl; rw [h1] at hc; simp at hc
  · rintro rfl; rw [h2] at hc; simp at hc

set_option maxHeartbeats 400000 in
theorem charsNode_any (S : Nat) (w : World) :
    Calls Try.prog 11 #[.pointer (some ⟨S, 0, none⟩)] w fun e w' => e = .returned (.pointer (some ⟨w.heap.size, 0, none⟩)) ∧ w.alloc (.cells #[.int .u8 1, .pointer (some ⟨S, 0, none⟩), .slice none 0 0, .int .i64 0, .int .i64 0, .bool false, .int .i64 0, .int .u8 0, .bool false, .bool false, .bool false] 65) = w' := by
  go_enter Try.func11, Try.ntmps11
  go_wp2
  go_ret
  exact ⟨rfl, rfl⟩

set_option maxHeartbeats 400000 in
theorem capNode_any (grp : Int) (N' : Nat) (w : World) :
    Calls Try.prog 10 #[.int .i64 grp, .pointer (some ⟨N', 0, none⟩)] w fun e w' => e = .returned (.pointer (some ⟨w.heap.size + 1, 0, none⟩)) ∧ CapAt w' (w.heap.size + 1) N' grp ∧ ∃ o1 o2, (w.alloc o1).alloc o2 = w' := by
  go_enter Try.func10, Try.ntmps10
  go_wp2
  go_ret
  exact ⟨rfl, ⟨w.heap.size, heap_alloc2 _ _ _, (Below.heap_alloc _ _ _ (by simp)).trans (heap_alloc_new _ _)⟩, _, _, rfl⟩

set_option maxHeartbeats 400000 in
theorem repNode_any (N' : Nat) (mn mx : Int) (lz : Bool) (w : World) :
    Calls Try.prog 19 #[.pointer (some ⟨N', 0, none⟩), .int .i64 mn, .int .i64 mx, .bool lz] w fun e w' => e = .returned (.pointer (some ⟨w.heap.size + 1, 0, none⟩)) ∧ RepAt w' (w.heap.size + 1) N' mn mx lz ∧ ∃ o1 o2, (w.alloc o1).alloc o2 = w' := by
  go_enter Try.func19, Try.ntmps19
  go_wp2
  go_ret
  exact ⟨rfl, ⟨w.heap.size, heap_alloc2 _ _ _, (Below.heap_alloc _ _ _ (by simp)).trans (heap_alloc_new _ _)⟩, _, _, rfl⟩

/-- The set at S is the merged set of the one range lo .. hi. -/
def OneSet (w : World) (S : Nat) (lo hi : Int) : Prop :=
  (hi < lo ∧ ∃ ar cap, w.cell? ⟨S, 0, none⟩ = some (.slice ar 0 cap)) ∨
  (lo ≤ hi ∧ ∃ g cap, w.cell? ⟨S, 0, none⟩ = some (.slice (some ⟨g, 0, none⟩) 1 cap) ∧ w.cell? ⟨g, 0, none⟩ = some (.int .i32 lo) ∧ w.cell? ⟨g, 1, none⟩ = some (.int .i32 hi))
theorem cell_lt {w : World} {a : Addr} {v : Value} (h : w.cell? a = some v) : a.block < w.heap.size := by
  rcases Nat.lt_or_ge a.block w.heap.size with hlt | hge
  · exact hlt
  · simp [World.cell?, Array.getElem?_eq_none hge] at h
theorem OneSet.alloc {w : World} {S : Nat} {lo hi : Int} (h : OneSet w S lo hi) (o : Obj) : OneSet (w.alloc o) S lo hi := by
  have hc : ∀ {a : Addr} {v : Value}, w.cell? a = some v → (w.alloc o).cell? a = some v := fun {a v} hv => ((Below.refl w.heap.size w).alloc (Nat.le_refl _) o).cell (cell_lt hv) ▸ hv
  rcases h with ⟨h1, ar, cap, h2⟩ | ⟨h1, g, cap, h2, h3, h4⟩
  · exact .inl ⟨h1, ar, cap, hc h2⟩
  · exact .inr ⟨h1, g, cap, hc h2, hc h3, hc h4⟩

set_option maxHeartbeats 400000 in
theorem single_any (S : Nat) (lo hi : Int) (w : World) (h : OneSet w S lo hi) :
    Calls Try.prog 40 #[.pointer (some ⟨S, 0, none⟩)] w fun e w' => e = .returned (.tuple #[.int .i32 (if lo = hi then lo else 0), .bool (decide (lo = hi))]) ∧ ∃ q, w' = w.drewN q := by
  rcases h with ⟨h1, ar, cap, h2⟩ | ⟨h1, g, cap, h2, h3, h4⟩
  · go_enter Try.func40, Try.ntmps40
    go_wp2_with fail
    go_quiet (fail)
    go_wp2_with fail
    exact bodyPost_ret (v := .tuple #[.int .i32 0, .bool false]) (by simp [results, Try.results40, go_sem]) rfl ⟨rfl, _, rfl⟩
  · by_cases he : lo = hi
    · subst he
      have hd : decide (lo = lo) = true := by simp
      go_enter Try.func40, Try.ntmps40
      go_wp2_with fail
      go_quiet (fail)
      go_wp2_with fail
      exact bodyPost_ret (v := .tuple #[.int .i32 lo, .bool true]) (by simp [results, Try.results40, go_sem]) rfl ⟨rfl, _, rfl⟩
    · have hd : decide (lo = hi) = false := by simpa using he
      go_enter Try.func40, Try.ntmps40
      go_wp2_with fail
      go_quiet (fail)
      go_wp2_with fail
      exact bodyPost_ret (v := .tuple #[.int .i32 0, .bool false]) (by simp [results, Try.results40, go_sem]) rfl ⟨rfl, _, rfl⟩

/-- The instruction of a character class. -/
def charI (S : Nat) (lo hi : Int) : In := if lo = hi then { op := 0, r := lo } else { op := 0, set := some ⟨S, 0, none⟩ }

set_option maxRecDepth 100000 in
set_option maxHeartbeats 2000000 in
theorem node_chars (N S : Nat) (lo hi : Int) (is : List In) (C base B : Nat) (v : Value) (loops : Int) (w : World) (hN : CharsAt w N S) (hS : OneSet w S lo hi) (h : Comp w C base v is loops) (hB : B ≤ base) (hC : B ≤ C) (hbase : base ≤ w.heap.size) (hn : is.length ≤ 90000) :
    Calls Try.prog 33 #[.pointer (some ⟨C, 0, none⟩), .pointer (some ⟨N, 0, none⟩)] w fun e w' => e = .returned .nilIface ∧ (∃ v', Comp w' C base v' (is ++ [charI S lo hi]) loops) ∧ Kept w w' C ∧ Below B w w' := by
  have n0 : w.cell? ⟨N, 0, none⟩ = some (.int .u8 1) := by rw [cell_of_row w N 0 _ _ (0, 0) hN]; rfl
  have n1 : w.cell? ⟨N, 1, none⟩ = some (.pointer (some ⟨S, 0, none⟩)) := by rw [cell_of_row w N 1 _ _ (0, 0) hN]; rfl
  have hNw := block_lt hN
  have hsg := fun o => single_any S lo hi (w.alloc o) (hS.alloc o)
  clear hS hN
  go_enter Try.func33, Try.ntmps33
  go_wp2_with fail
  refine (hsg _).mono ?_
  clear hsg
  rintro e w1 ⟨rfl, q, rfl⟩
  have hfar := h.far (Nat.le_refl w.heap.size)
  by_cases he : lo = hi
  · subst he
    go_wp2_with fail
    have hc1 := (((h.alloc (.cells #[.int .u8 0, .int .i64 0, .int .i64 0, .int .i64 0, .pointer (some ⟨S, 0, none⟩), .int .i32 0, .int .i64 0, .int .i64 0, .bool false, .int .u8 0, .bool false, .bool false, .bool false, .bool false, .slice none 0 0, .int .i32 0] 70)).drewN q).setOther (a := ⟨w.heap.size, 4, none⟩) hfar.1 hfar.2 (.pointer none)).setOther (a := ⟨w.heap.size, 5, none⟩) hfar.1 hfar.2 (.int .i32 lo)
    have hk1 := (((Kept.of_alloc w C (.cells #[.int .u8 0, .int .i64 0, .int .i64 0, .int .i64 0, .pointer (some ⟨S, 0, none⟩), .int .i32 0, .int .i64 0, .int .i64 0, .bool false, .int .u8 0, .bool false, .bool false, .bool false, .bool false, .slice none 0 0, .int .i32 0] 70)).drewN q).setNew (a := ⟨w.heap.size, 4, none⟩) (Nat.le_refl _) (.pointer none)).setNew (a := ⟨w.heap.size, 5, none⟩) (Nat.le_refl _) (.int .i32 lo)
    have hb1 := ((below_drewN ((Below.refl B w).alloc (by omega) (.cells #[.int .u8 0, .int .i64 0, .int .i64 0, .int .i64 0, .pointer (some ⟨S, 0, none⟩), .int .i32 0, .int .i64 0, .int .i64 0, .bool false, .int .u8 0, .bool false, .bool false, .bool false, .bool false, .slice none 0 0, .int .i32 0] 70)) q).setCell (p := ⟨w.heap.size, 4, none⟩) (by show B ≤ w.heap.size; omega) (.pointer none)).setCell (p := ⟨w.heap.size, 5, none⟩) (by show B ≤ w.heap.size; omega) (.int .i32 lo)
    have hz := hb1.size
    refine (emit_any { op := 0, r := lo } is C base B v loops _ hc1 hB hC (by omega) (by omega)).mono ?_
    rintro e w2 ⟨rfl, hcomp, hkept, hbel⟩
    clear hc1 hfar
    go_wp2_with fail
    go_ret
    exact ⟨rfl, by unfold charI; rw [if_pos rfl]; exact hcomp, hk1.trans hkept, hb1.trans hbel⟩
  · go_wp2_with fail
    have hc1 := (h.alloc (.cells #[.int .u8 0, .int .i64 0, .int .i64 0, .int .i64 0, .pointer (some ⟨S, 0, none⟩), .int .i32 0, .int .i64 0, .int .i64 0, .bool false, .int .u8 0, .bool false, .bool false, .bool false, .bool false, .slice none 0 0, .int .i32 0] 70)).drewN q
    have hk1 := (Kept.of_alloc w C (.cells #[.int .u8 0, .int .i64 0, .int .i64 0, .int .i64 0, .pointer (some ⟨S, 0, none⟩), .int .i32 0, .int .i64 0, .int .i64 0, .bool false, .int .u8 0, .bool false, .bool false, .bool false, .bool false, .slice none 0 0, .int .i32 0] 70)).drewN q
    have hb1 := below_drewN ((Below.refl B w).alloc (by omega) (.cells #[.int .u8 0, .int .i64 0, .int .i64 0, .int .i64 0, .pointer (some ⟨S, 0, none⟩), .int .i32 0, .int .i64 0, .int .i64 0, .bool false, .int .u8 0, .bool false, .bool false, .bool false, .bool false, .slice none 0 0, .int .i32 0] 70)) q
    have hz := hb1.size
    refine (emit_any { op := 0, set := some ⟨S, 0, none⟩ } is C base B v loops _ hc1 hB hC (by omega) (by omega)).mono ?_
    rintro e w2 ⟨rfl, hcomp, hkept, hbel⟩
    clear hc1 hfar
    go_wp2_with fail
    go_ret
    exact ⟨rfl, by unfold charI; rw [if_neg he]; exact hcomp, hk1.trans hkept, hb1.trans hbel⟩
end Go.Proofs.Qxb6613789a.Rp
