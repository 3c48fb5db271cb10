import Derived.Test.Qxb6613789aRows
import Derived.WalkKit
import Derived.WalkSpells
import Derived.WalkLawsBesides
import Derived.Deep.RegionLaw
import Derived.Deep.AppendLies
namespace Go.Proofs.Qxb6613789a.Og
open Go.RowKit

theorem info9 : (Try.prog.info? 9).map (fun i => (i.zero, i.size, i.bytes)) = some (some (.string ByteArray.empty), 1, 16) := by kernel_rfl
theorem info3 : (Try.prog.info? 3).map (fun i => (i.zero, i.size, i.bytes)) = some (some (.int .i64 0), 1, 8) := by kernel_rfl

/-- The numbers 1 .. n as cells. -/
def nums (n : Nat) : List Value := (List.range n).map fun (i : Nat) => Value.int .i64 ((i : Int) + 1)
theorem nums_succ (n : Nat) : nums (n + 1) = nums n ++ [.int .i64 ((n : Int) + 1)] := by simp [nums, List.range_succ]
theorem nums_length (n : Nat) : (nums n).length = n := by simp [nums]

/-- The parser at block B: its fields 'names' and 'open' own the names so far and the numbers 1 .. n. -/
structure Inv (w : World) (B : Nat) (ss : List ByteArray) (aN aO : Option Addr) (cN cO : Nat) : Prop where
  cn : w.cell? ⟨B, 10, none⟩ = some (.slice aN ss.length cN)
  fn : w.frozen? ⟨B, 10, none⟩ = false
  co : w.cell? ⟨B, 11, none⟩ = some (.slice aO ss.length cO)
  fo : w.frozen? ⟨B, 11, none⟩ = false
  on : w.ownsRow (B + 1) 9 1 (.slice aN ss.length cN) ss.length (ss.map Value.string)
  oo : w.ownsRow (B + 1) 3 1 (.slice aO ss.length cO) ss.length (nums ss.length)
  lt : B < w.heap.size

/-- Two rows of different element types are not one block. -/
theorem own_ne {w : World} {base base' e e' size size' : Nat} {v v' : Value} {n n' : Nat} {xs xs' : List Value} (h : w.ownsRow base e size v n xs) (h' : w.ownsRow base' e' size' v' n' xs') (hne : e ≠ e') :
    v.ownBlock = none ∨ v.ownBlock ≠ v'.ownBlock := by
  rcases h.2 with ⟨rfl, _⟩ | ⟨g, cap, cur, rfl, _, hg, _⟩
  · exact .inl rfl
  · right
    rcases h'.2 with ⟨rfl, _⟩ | ⟨g', cap', cur', rfl, _, hg', _⟩
    · simp [Value.ownBlock]
    · simp only [Value.ownBlock, ne_eq, Option.some.injEq]
      intro e0
      subst e0
      rw [hg] at hg'
      simp only [Option.some.injEq, Obj.cells.injEq] at hg'
      exact hne hg'.2.1

theorem third_cell {w w3 : World} {B i e n : Nat} {v u : Value} {o : Obj} {xs : List Value} (oo : w.ownsRow (B + 1) e 1 v n xs) (hg : (w.alloc o).drew.grownBy w3 v.ownBlock) (hlt : B < w.heap.size) (hc : w.cell? ⟨B, i, none⟩ = some u) : w3.cell? ⟨B, i, none⟩ = some u := by
  rw [hg.cell_far ⟨B, i, none⟩ (by show B < (w.alloc o).heap.size; simp; omega) (fun h => by have := (oo.lt B h.symm).1; omega)]
  show (w.alloc o).cell? _ = _
  rw [World.cell?_alloc_past _ _ _ hlt]; exact hc
theorem third_frozen {w w3 : World} {B i e n : Nat} {v : Value} {o : Obj} {xs : List Value} (oo : w.ownsRow (B + 1) e 1 v n xs) (hg : (w.alloc o).drew.grownBy w3 v.ownBlock) (hlt : B < w.heap.size) (hc : w.frozen? ⟨B, i, none⟩ = false) : w3.frozen? ⟨B, i, none⟩ = false := by
  rw [hg.frozen_far ⟨B, i, none⟩ (by show B < (w.alloc o).heap.size; simp; omega) (fun h => by have := (oo.lt B h.symm).1; omega)]
  show (w.alloc o).frozen? _ = _
  rw [World.frozen?_alloc_past _ _ _ hlt]; exact hc

theorem last_step {w w2 w3 : World} {B n g cap g' cap' cO : Nat} {aO : Option Addr} {ss : List ByteArray} {s : ByteArray} {o : Obj} (hn : ss.length = n)
    (hown2 : w2.ownsRow (B + 1) 9 1 (.slice (some ⟨g, 0, none⟩) (n + 1) cap) (n + 1) (ss.map Value.string ++ [.string s])) (oo2 : w2.ownsRow (B + 1) 3 1 (.slice aO n cO) n (nums n)) (hbel2 : Below B w w2) (hlt2 : B < w2.heap.size)
    (cn2 : w2.cell? ⟨B, 10, none⟩ = some (.slice (some ⟨g, 0, none⟩) (n + 1) cap)) (fn2 : w2.frozen? ⟨B, 10, none⟩ = false) (co2 : w2.cell? ⟨B, 11, none⟩ = some (.slice aO n cO)) (fo2 : w2.frozen? ⟨B, 11, none⟩ = false)
    (hown3 : w3.ownsRow (B + 1) 3 1 (.slice (some ⟨g', 0, none⟩) (n + 1) cap') (n + 1) (nums n ++ [.int .i64 ((n : Int) + 1)])) (hgrow3 : (w2.alloc o).drew.grownBy w3 (Value.slice aO n cO).ownBlock) :
    (∃ aN' aO' cN' cO', Inv (w3.setCell ⟨B, 11, none⟩ (.slice (some ⟨g', 0, none⟩) (n + 1) cap')) B (ss ++ [s]) aN' aO' cN' cO') ∧ Below B w (w3.setCell ⟨B, 11, none⟩ (.slice (some ⟨g', 0, none⟩) (n + 1) cap')) := by
  have hl : (ss ++ [s]).length = n + 1 := by simp [hn]
  have c3 := third_cell oo2 hgrow3 hlt2 cn2
  have o3 := third_cell oo2 hgrow3 hlt2 co2
  have hb3 : Below B w w3 := ((hbel2.alloc (by omega) o).drew).grown hgrow3 (by show B ≤ (w2.alloc o).heap.size; simp; omega) (fun k hk => by have := (oo2.lt k hk).1; omega)
  have hlt3 : B < w3.heap.size := by
    have h1 := hgrow3.size
    have h2 : (w2.alloc o).drew.heap.size = w2.heap.size + 1 := by show (w2.alloc o).heap.size = _; simp
    omega
  refine ⟨⟨some ⟨g, 0, none⟩, some ⟨g', 0, none⟩, cap, cap', ?_⟩, hb3.setCell (Nat.le_refl B) _⟩
  constructor
  · rw [hl]; exact (World.cell?_setCell_other _ _ _ _ (by simp)).trans c3
  · simpa using third_frozen oo2 hgrow3 hlt2 fn2
  · rw [hl]; exact World.cell?_setCell_same _ _ _ o3
  · simpa using third_frozen oo2 hgrow3 hlt2 fo2
  · rw [hl]
    refine ownsRow_setCell_below ?_ (by simp) _
    simpa using ((hown2.alloc o).drew).kept hgrow3 (own_ne hown2 oo2 (by decide))
  · rw [hl, nums_succ]
    exact ownsRow_setCell_below hown3 (by simp) _
  · simpa using hlt3

set_option maxRecDepth 100000 in
set_option maxHeartbeats 800000 in
theorem openGroup_any (w : World) (B : Nat) (ss : List ByteArray) (s : ByteArray) (aN aO : Option Addr) (cN cO : Nat) (hI : Inv w B ss aN aO cN cO) (hb : ss.length ≤ 100000) :
    Calls Try.prog 35 #[.pointer (some ⟨B, 0, none⟩), .string s] w fun e w' => e = .returned (.int .i64 ((ss.length : Int) + 1)) ∧ (∃ aN' aO' cN' cO', Inv w' B (ss ++ [s]) aN' aO' cN' cO') ∧ Below B w w' := by
  obtain ⟨i0, hi, hz0, hz1, hz2⟩ := info_parts info9
  obtain ⟨j0, ji, jz0, jz1, jz2⟩ := info_parts info3
  obtain ⟨cn, fn, co, fo, on, oo, lt⟩ := hI
  generalize hn : ss.length = n at *
  have HN : Hid (ss.length = n) := hn
  clear hn
  go_enter Try.func35, Try.ntmps35
  go_wp2_with (at_builtin; refine wpList_append_lies _ rfl (.tmp 9) (.tmp 11) 47 rfl (B + 1) 9 i0 (.string ByteArray.empty) 1 16 Try.underlying47 hi hz0 hz1 hz2 rfl (by omega) _ _ _ rfl (on.alloc _) ⟨w.heap.size, 0, none⟩ 1 1 [.string s] rfl rfl (cell_one_new _ _ _) ?h1 (by omega) ?h63 ?hbytes ?hbase (w.heap.size + 1) (by simp) ?_)
  case h1 => intro u hu; simp at hu; subst hu; rfl
  case h63 => unfold maxLen; omega
  case hbytes => omega
  case hbase => simp; omega
  intro g cap w1 hown1 hgrow _ hlt
  have hbel : Below (B + 1) w w1 := ((Below.refl _ _).alloc (by omega) _).grown hgrow (by simp; omega) (fun k hk => (on.lt k hk).1)
  have oo1 := (oo.alloc (.cells #[.string s] 9)).kept hgrow (own_ne oo on (by decide))
  have hlt1 : B < w1.heap.size := by have := hbel.size; omega
  have cn1 : w1.cell? ⟨B, 10, none⟩ = some (.slice aN n cN) := (hbel.cell (by simp)).trans cn
  have fn1 : w1.frozen? ⟨B, 10, none⟩ = false := (hbel.frozen (by simp)).trans fn
  have co1 : w1.cell? ⟨B, 11, none⟩ = some (.slice aO n cO) := (hbel.cell (by simp)).trans co
  have fo1 : w1.frozen? ⟨B, 11, none⟩ = false := (hbel.frozen (by simp)).trans fo
  have hown2 := ownsRow_setCell_below hown1 (a := ⟨B, 10, none⟩) (by simp) (.slice (some ⟨g, 0, none⟩) (n + 1) cap)
  have oo2 := ownsRow_setCell_below oo1 (a := ⟨B, 10, none⟩) (by simp) (.slice (some ⟨g, 0, none⟩) (n + 1) cap)
  have hbel2 := (hbel.mono (Nat.le_succ B)).setCell (p := ⟨B, 10, none⟩) (Nat.le_refl B) (.slice (some ⟨g, 0, none⟩) (n + 1) cap)
  have hlt2 : B < (w1.setCell ⟨B, 10, none⟩ (.slice (some ⟨g, 0, none⟩) (n + 1) cap)).heap.size := by simpa [World.setCell] using hlt1
  have cn2 : (w1.setCell ⟨B, 10, none⟩ (.slice (some ⟨g, 0, none⟩) (n + 1) cap)).cell? ⟨B, 10, none⟩ = some (.slice (some ⟨g, 0, none⟩) (n + 1) cap) := World.cell?_setCell_same _ _ _ cn1
  have fn2 : (w1.setCell ⟨B, 10, none⟩ (.slice (some ⟨g, 0, none⟩) (n + 1) cap)).frozen? ⟨B, 10, none⟩ = false := by simp [*]
  have co2 : (w1.setCell ⟨B, 10, none⟩ (.slice (some ⟨g, 0, none⟩) (n + 1) cap)).cell? ⟨B, 11, none⟩ = some (.slice aO n cO) := (World.cell?_setCell_other _ _ _ _ (by simp)).trans co1
  have fo2 : (w1.setCell ⟨B, 10, none⟩ (.slice (some ⟨g, 0, none⟩) (n + 1) cap)).frozen? ⟨B, 11, none⟩ = false := by simp [*]
  go_wp2
  generalize w1.setCell ⟨B, 10, none⟩ (.slice (some ⟨g, 0, none⟩) (n + 1) cap) = w2 at *
  clear hown1 hgrow hbel oo1 cn1 fn1 co1 fo1 hlt1 hlt cn fn co fo on oo hi hz0 hz1 hz2
  have hlt2' : ∀ o, B < (w2.alloc o).heap.size := fun o => by simp; omega
  go_region_law
    ((refine step_append_lies _ (by rfl) (.tmp 19) (.tmp 25) 53 (by rfl) (B + 1) 3 j0 (.int .i64 0) 1 8 Try.underlying53 ji jz0 jz1 jz2 rfl (by omega) _ n _ (by rfl) ((oo2.alloc _).drew) ⟨w2.heap.size, 0, none⟩ 1 1 [.int .i64 ((n : Int) + 1)] (by rfl) rfl (fun j u h => by exact cell_one_new _ _ _ j u h) (by intro u hu; simp at hu; subst hu; rfl) (by omega) (by unfold maxLen; omega) (by omega) (by show B + 1 ≤ (w2.alloc _).heap.size; simp; omega) (w2.heap.size + 1) (by simp) ?_; intro g' cap' w3 hown3 hgrow3 hat3 hlt3; have c3 := third_cell oo2 hgrow3 hlt2 cn2; have f3 := third_cell oo2 hgrow3 hlt2 co2; have h3 := third_frozen oo2 hgrow3 hlt2 fo2))
  all_goals
    have hlast := last_step HN.out hown2 oo2 hbel2 hlt2 cn2 fn2 co2 fo2 hown3 hgrow3
    go_wp2
    go_ret
    exact ⟨rfl, hlast⟩

end Go.Proofs.Qxb6613789a.Og
