import Derived.Test.Qxb6613789aRows
import Derived.WalkKit
import Derived.WalkSpells
import Derived.WalkLawsBesides
import Derived.Deep.RegionLaw
import Derived.Deep.AppendLies
import Derived.Deep.QuietTactic
import Derived.BigQuiet
import Derived.Deep.RegionHeld3
import Derived.Deep.DrawnRows
namespace Go.Proofs.Qxb6613789a.Rp
open Go.RowKit
attribute [local go_sem ↓] Go.wp_at_zero Go.wp_at_succ

/-- An instruction, of the fields that are met here; all the others are zero. -/
structure In where
  op : Int := 0
  x : Int := 0
  y : Int := 0
  n : Int := 0
  set : Option Addr := none
  r : Int := 0
  min : Int := 0
  max : Int := 0
  lazy : Bool := false
def In.arr (i : In) : Array Value := #[.int .u8 i.op, .int .i64 i.x, .int .i64 i.y, .int .i64 i.n, .pointer i.set, .int .i32 i.r, .int .i64 i.min, .int .i64 i.max, .bool i.lazy, .int .u8 0, .bool false, .bool false, .bool false, .bool false, .slice none 0 0, .int .i32 0]
def In.vals (i : In) : List Value := i.arr.toList
theorem In.vals_length (i : In) : i.vals.length = 16 := rfl
theorem In.vals_one (i : In) : ∀ u ∈ i.vals, u.oneCell' = true := by
  intro u hu
  simp [In.vals, In.arr] at hu
  rcases hu with rfl | rfl | rfl | rfl | rfl | rfl | rfl | rfl | rfl | rfl | rfl | rfl | rfl <;> rfl
def flatI (is : List In) : List Value := is.flatMap In.vals
theorem flatI_snoc (is : List In) (i : In) : flatI (is ++ [i]) = flatI is ++ i.vals := by simp [flatI]
theorem flatI_length (is : List In) : (flatI is).length = is.length * 16 := by
  induction is with
  | nil => rfl
  | cons a m ih => simp [flatI, In.vals_length] at *; omega
theorem flatI_get (is : List In) (j : Nat) (hj : j < is.length) (c : Nat) (hc : c < 16) : (flatI is)[j * 16 + c]? = (is[j]).vals[c]? := by
  induction is generalizing j with
  | nil => simp at hj
  | cons a m ih =>
    have e : flatI (a :: m) = a.vals ++ flatI m := rfl
    cases j with
    | zero =>
      rw [e, Nat.zero_mul, Nat.zero_add, List.getElem?_append_left (by rw [In.vals_length]; exact hc)]
      rfl
    | succ j =>
      rw [e, List.getElem?_append_right (by rw [In.vals_length]; omega), In.vals_length, show (j + 1) * 16 + c - 16 = j * 16 + c by omega, ih j (by simpa using hj)]
      rfl

theorem info70 : (Try.prog.info? 70).map (fun i => (i.zero, i.size, i.bytes)) = some (some (.agg (In.arr {})), 16, 104) := by kernel_rfl

/-! ### Blocks and their tags -/
theorem own_tag {w : World} {base : Nat} {e : TypeId} {size : Nat} {v : Value} {n : Nat} {xs : List Value} (h : w.ownsRow base e size v n xs) {k : Nat} (hk : v.ownBlock = some k) : ∃ cur, w.heap[k]? = some (.cells cur e) := by
  rcases h.2 with ⟨rfl, _⟩ | ⟨g, cap, cur, rfl, _, hh, _⟩
  · simp [Value.ownBlock] at hk
  · simp [Value.ownBlock] at hk
    subst hk
    exact ⟨cur, hh⟩
theorem block_lt {w : World} {k : Nat} {o : Obj} (h : w.heap[k]? = some o) : k < w.heap.size := by
  rcases Nat.lt_or_ge k w.heap.size with hlt | hge
  · exact hlt
  · rw [Array.getElem?_eq_none hge] at h; cases h
theorem own_setCell_other {w : World} {base : Nat} {e : TypeId} {size : Nat} {v : Value} {n : Nat} {xs : List Value} (h : w.ownsRow base e size v n xs) {a : Addr} (ha : v.ownBlock ≠ some a.block) (u : Value) : (w.setCell a u).ownsRow base e size v n xs := by
  obtain ⟨h1, h2⟩ := h
  refine ⟨h1, ?_⟩
  rcases h2 with h2 | ⟨g, cap, cur, hv, hg, hh, r⟩
  · exact Or.inl h2
  · refine Or.inr ⟨g, cap, cur, hv, hg, ?_, r⟩
    rw [Below.heap_setCell _ _ _ _ (fun e => ha (by subst hv; simp [Value.ownBlock, e]))]
    exact hh

/-- The compiler at block C: its instructions, its count of loops. -/
structure Comp (w : World) (C base : Nat) (v : Value) (is : List In) (L : Int) : Prop where
  blk : w.heap[C]? = some (.cells #[v, .int .i64 L] 67)
  own : w.ownsRow base 70 16 v is.length (flatI is)

/-- All blocks but C and those of instructions stay. -/
def Kept (w w' : World) (C : Nat) : Prop := ∀ k cs t, k ≠ C → t ≠ 70 → w.heap[k]? = some (.cells cs t) → w'.heap[k]? = some (.cells cs t)
theorem Kept.refl (w : World) (C : Nat) : Kept w w C := fun _ _ _ _ _ h => h
theorem Kept.trans {a b c : World} {C : Nat} (h : Kept a b C) (k : Kept b c C) : Kept a c C := fun i cs t h1 h2 h3 => k i cs t h1 h2 (h i cs t h1 h2 h3)
theorem Kept.of_alloc (w : World) (C : Nat) (o : Obj) : Kept w (w.alloc o) C := fun k _ _ _ _ h => (Below.heap_alloc w o k (block_lt h)).trans h

/-- One emit, behind its append. -/
theorem emit_step {w w3 : World} {C base B L : Nat} {v : Value} {is : List In} {i : In} {loops : Int} {g cap : Nat} {o1 o2 : Obj} (hL : is.length = L) (h : Comp w C base v is loops) (hB : B ≤ base) (hC : B ≤ C)
    (hown : w3.ownsRow base 70 16 (.slice (some ⟨g, 0, none⟩) (L + 1) cap) (L + 1) (flatI is ++ i.vals)) (hgrow : ((w.alloc o1).alloc o2).drew.grownBy w3 v.ownBlock) :
    w3.heap[C]? = some (.cells #[v, .int .i64 loops] 67) ∧ Comp (w3.setCell ⟨C, 0, none⟩ (.slice (some ⟨g, 0, none⟩) (L + 1) cap)) C base (.slice (some ⟨g, 0, none⟩) (L + 1) cap) (is ++ [i]) loops ∧
      Kept w (w3.setCell ⟨C, 0, none⟩ (.slice (some ⟨g, 0, none⟩) (L + 1) cap)) C ∧ Below B w (w3.setCell ⟨C, 0, none⟩ (.slice (some ⟨g, 0, none⟩) (L + 1) cap)) := by
  have hk : ∀ (k : Nat) (cs : Array Value) (t : TypeId), t ≠ 70 → w.heap[k]? = some (Obj.cells cs t) → w3.heap[k]? = some (Obj.cells cs t) := by
    intro k cs t ht hh
    have hlt := block_lt hh
    have e0 : ((w.alloc o1).alloc o2).drew.heap[k]? = some (.cells cs t) := by
      show ((w.alloc o1).alloc o2).heap[k]? = _
      rw [Below.heap_alloc _ _ _ (by simp; omega), Below.heap_alloc _ _ _ hlt]
      exact hh
    rw [hgrow.block k (block_lt e0) (fun e => by
      obtain ⟨cur, hc⟩ := own_tag h.own e.symm
      rw [hh] at hc
      simp at hc
      exact ht hc.2)]
    exact e0
  have hC3 := hk C _ 67 (by decide) h.blk
  have hne : (Value.slice (some ⟨g, 0, none⟩) (L + 1) cap).ownBlock ≠ some C := by
    intro e
    obtain ⟨cur, hc⟩ := own_tag hown e
    rw [hC3] at hc
    simp at hc
  refine ⟨hC3, ⟨?_, ?_⟩, ?_, ?_⟩
  · exact heap_setCell_same w3 C 0 _ _ _ hC3
  · rw [flatI_snoc, List.length_append, hL]
    exact own_setCell_other hown hne _
  · intro k cs t h1 h2 h3
    rw [Below.heap_setCell _ _ _ _ h1]
    exact hk k cs t h2 h3
  · refine Below.setCell ?_ hC _
    have hsz := block_lt h.blk
    refine ((((Below.refl B w).alloc (by omega) o1).alloc (by simp; omega) o2).drew).grown hgrow (by show B ≤ ((w.alloc o1).alloc o2).heap.size; simp; omega) (fun k hk => Nat.le_trans hB (h.own.lt k hk).1)

theorem news_at (W : World) (B : Nat) (cs : Array Value) (t : TypeId) (hB : B = W.heap.size) : ∀ j u, cs.toList[j]? = some u → (W.alloc (.cells cs t)).cell? ((⟨B, 0, none⟩ : Addr).add j) = some u := by
  subst hB; exact World.news_of_block (heap_alloc_new W _)

set_option maxRecDepth 100000 in
set_option maxHeartbeats 2000000 in
/-- emit: one instruction more. -/
theorem emit_any (i : In) (is : List In) (C base B : Nat) (v : Value) (loops : Int) (w : World) (h : Comp w C base v is loops) (hB : B ≤ base) (hC : B ≤ C) (hbase : base ≤ w.heap.size) (hn : is.length ≤ 100000) :
    Calls Try.prog 41 #[.pointer (some ⟨C, 0, none⟩), .agg #[.int .u8 i.op, .int .i64 i.x, .int .i64 i.y, .int .i64 i.n, .pointer i.set, .int .i32 i.r, .int .i64 i.min, .int .i64 i.max, .bool i.lazy, .int .u8 0, .bool false, .bool false, .bool false, .bool false, .slice none 0 0, .int .i32 0]] w fun e w' => e = .returned (.int .i64 is.length) ∧ (∃ v', Comp w' C base v' (is ++ [i]) loops) ∧ Kept w w' C ∧ Below B w w' := by
  obtain ⟨i0, hi0, hz0, hz1, hz2⟩ := info_parts info70
  have hCs := block_lt h.blk
  have c0 : w.cell? ⟨C, 0, none⟩ = some v := by rw [cell_of_row w C 0 _ _ (0, 0) h.blk]; rfl
  have f0 : w.frozen? ⟨C, 0, none⟩ = false := frozen_of_row w C 0 _ _ h.blk
  have hown := h.own
  generalize hL : is.length = L at *
  have HL : Hid (is.length = L) := hL
  clear hL
  go_enter Try.func41, Try.ntmps41
  go_wp2_with fail
  go_region_law
    ((refine step_append_lies _ (by rfl) (.tmp 9) (.tmp 11) 35 (by rfl) base 70 i0 _ 16 104 Try.underlying35 hi0 hz0 hz1 hz2 rfl (by omega) v L _ (by rfl) (((hown.alloc _).alloc _).drew) ⟨w.heap.size + 1, 0, none⟩ 1 1 i.vals (by rfl) rfl (news_at (w.alloc (.cells #[.int .u8 i.op, .int .i64 i.x, .int .i64 i.y, .int .i64 i.n, .pointer i.set, .int .i32 i.r, .int .i64 i.min, .int .i64 i.max, .bool i.lazy, .int .u8 0, .bool false, .bool false, .bool false, .bool false, .slice none 0 0, .int .i32 0] 70)) _ i.arr 70 (by simp)) i.vals_one (by omega) (by unfold maxLen; omega) (by omega) (by show base ≤ ((w.alloc _).alloc _).heap.size; simp; omega) (w.heap.size + 2) (by simp) ?_; intro g' cap' w3 hown3 hgrow3 hat3 hlt3; have st := emit_step HL.out h hB hC hown3 hgrow3; have c3 : w3.cell? ⟨C, 0, none⟩ = some v := (cell_of_row w3 C 0 _ _ (0, 0) st.1).trans rfl; have f3 : w3.frozen? ⟨C, 0, none⟩ = false := frozen_of_row w3 C 0 _ _ st.1))
  all_goals
    go_wp2_with fail
    go_ret
    exact ⟨by go_num, ⟨_, st.2.1⟩, st.2.2⟩
end Go.Proofs.Qxb6613789a.Rp
