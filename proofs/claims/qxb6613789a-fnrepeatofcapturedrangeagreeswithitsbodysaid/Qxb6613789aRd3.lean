import Derived.Test.Qxb6613789aRc8
import Derived.Deep.MidRow
namespace Go.Proofs.Qxb6613789a.Rp
open Go.RowKit
/-- The repeats that take no loop. -/
def Small (mn mx : Int) : Prop := mx = 0 ∨ (mn = 1 ∧ mx = 1) ∨ (mn = 0 ∧ mx = 1)
theorem size42 : (Try.prog.info? 42).map (·.size) = some 16 := by kernel_rfl
theorem alloc2_heap {W : World} {k : Nat} {o : Obj} (h : W.heap[k]? = some o) (o1 o2 : Obj) : ((W.alloc o1).alloc o2).heap[k]? = some o :=
  (Below.heap_alloc _ _ _ (by have := block_lt h; simp; omega)).trans ((Below.heap_alloc _ _ _ (block_lt h)).trans h)
/-- A view, its cells as one word. -/
theorem view_seen (C base : Nat) (v : Value) (is : List In) (L : Int) (j : Nat) (z : Int) (hz : z = (j : Int)) (i : In) (hj : is[j]? = some i) (hn : is.length ≤ 100000) (w : World) (h : Comp w C base v is L) :
    Calls Try.prog 17 #[.pointer (some ⟨C, 0, none⟩), .int .i64 z] w fun e w' => e = .returned (.agg i.seen.toArray) ∧ ∃ o1 o2, (w.alloc o1).alloc o2 = w' :=
  view_at C base v is L j z hz i hj hn w h
theorem seen_neq (w : World) (i : In) : (binOp .neq 42 (.agg i.seen.toArray) (.agg i.seen.toArray)).run Try.prog w = .ok (.bool false) w :=
  view_neq w i.op i.x i.y i.n i.set i.r i.min i.max i.lazy
/-- The cells of one view in the row that is wanted. -/
theorem want_range {w : World} {D : Nat} {tl : List In} (h : w.heap[D]? = some (.cells (seenRow tl).toArray 42)) (t : Nat) (i : In) (ht : tl[t]? = some i) : w.rangeAt D (t * 16) i.seen := fun j v hv => by
  have hl : i.seen.length = 16 := rfl
  have hj : j < 16 := hl ▸ (List.getElem?_eq_some_iff.1 hv).1
  exact (want_cell h t i ht j hj).trans hv
theorem load_seen (b o : Nat) (i : In) (w : World) (h : w.rangeAt b o i.seen) : (Instr.loadAt 42 (.pointer (some ⟨b, o, none⟩))).run Try.prog w = .ok (.agg i.seen.toArray) w :=
  run_loadAt_mid w b o 42 i.seen _ h Try.underlying42 rfl size42
theorem loadV_seen (b o : Nat) (i : In) (w : World) (h : w.rangeAt b o i.seen) : (loadVar 42 ⟨b, o, none⟩).run Try.prog w = .ok (.agg i.seen.toArray) w :=
  run_loadVar_mid w b o 42 i.seen _ h Try.underlying42 rfl size42

section
variable {P : Program} {md : Region.Mode} {ops : Array Oper} {Q : Exit → Act → World → Prop} {S : World → Prop}
/-- An operation of a region that draws, taken first; its slot is named. -/
theorem takeD {i : Nat} {oi : Oper} {fuel : Nat} {listed : Array Bool} {a : Act} {w : World} (d : Tmp) (v : Value) (hi : ops[i]? = some oi) (hd : oi.dst = some d)
    (hs : Region.noSelect ops = true) (hf : Region.free md ops listed i = true) (hr : (Region.ready md ops listed).contains i = true)
    (hQ : ∀ c a w, Q (.panic c) (a.put (some d) v) w → Q (.panic c) a w) (hy : YieldsIf P ops S oi v a) (hS : S w)
    (h : wpAnyH P md ops Q S fuel (listed.setIfInBounds i true) (a.put (some d) v) w) : wpAnyH P md ops Q S (fuel + 1) listed a w :=
  wpAnyH_take hi hs hf hr (by rw [hd]; exact hQ) hy hS (by rw [hd]; exact h)
/-- A move, taken first. -/
theorem takeM {i : Nat} {oi : Oper} {fuel : Nat} {listed : Array Bool} {a : Act} {w : World} (d : Tmp) (x : Operand) (v : Value) (hi : ops[i]? = some oi) (hd : oi.dst = some d)
    (hs : Region.noSelect ops = true) (hf : Region.free md ops listed i = true) (hr : (Region.ready md ops listed).contains i = true)
    (hQ : ∀ c a w, Q (.panic c) (a.put (some d) v) w → Q (.panic c) a w) (hg : oi.guard = none) (ho : oi.op = .move x) (hx : a.eval x = v) (hS : S w)
    (h : wpAnyH P md ops Q S fuel (listed.setIfInBounds i true) (a.put (some d) v) w) : wpAnyH P md ops Q S (fuel + 1) listed a w :=
  takeD d v hi hd hs hf hr hQ (.inl ⟨by simp [Region.wanted, hg], fun w _ => by unfold execOp; simp [ho, hx]⟩) hS h
end
end Go.Proofs.Qxb6613789a.Rp
