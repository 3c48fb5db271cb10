/-
  PLAIN LAWS: the greatest of the moves' days; and how the rows lie in memory.
-/
import Derived.Test.Qxb6613826aRows
import Derived.WalkKit
import Derived.WalkSpells
import Derived.WalkLawsBesides
import Derived.Deep.AppendLies
import Derived.Deep.DrawnRows
namespace Go.Proofs.Qxb6613826a.Lb
open Go.RowKit

/-- max, as the builtin tells it. -/
def mx (a b : Int) : Int := if a < b then b else a
theorem mx_spec (a b : Int) : (a ≤ mx a b ∧ b ≤ mx a b) ∧ (mx a b = a ∨ mx a b = b) := by unfold mx; split <;> omega
/-- The greatest of z and the first j of a row. -/
def rowMax (z : Int) (x : Nat → Int) : Nat → Int
  | 0 => z
  | j + 1 => mx (rowMax z x j) (x j)
/-- The look-back of the first k rows. -/
def lb (m : Nat → Nat) (x : Nat → Nat → Int) : Nat → Int
  | 0 => 0
  | k + 1 => rowMax (lb m x k) (x k) (m k)

/-- The least number that is at least 0 and at least every one of the rows' numbers. -/
def Lub (r : Int) (n : Nat) (m : Nat → Nat) (x : Nat → Nat → Int) : Prop :=
  0 ≤ r ∧ (∀ i, i < n → ∀ j, j < m i → x i j ≤ r) ∧ (r = 0 ∨ ∃ i, i < n ∧ ∃ j, j < m i ∧ x i j = r)

theorem rowMax_spec (z : Int) (x : Nat → Int) (m : Nat) : z ≤ rowMax z x m ∧ (∀ j, j < m → x j ≤ rowMax z x m) ∧ (rowMax z x m = z ∨ ∃ j, j < m ∧ x j = rowMax z x m) := by
  induction m with
  | zero => exact ⟨Int.le_refl _, fun j hj => by omega, .inl rfl⟩
  | succ m ih =>
    obtain ⟨h1, h2, h3⟩ := ih
    obtain ⟨⟨a1, a2⟩, a3⟩ := mx_spec (rowMax z x m) (x m)
    show z ≤ mx _ _ ∧ (∀ j, j < m + 1 → x j ≤ mx _ _) ∧ (mx _ _ = z ∨ ∃ j, j < m + 1 ∧ x j = mx _ _)
    refine ⟨by omega, fun j hj => ?_, ?_⟩
    · by_cases e : j = m
      · rw [e]; exact a2
      · have := h2 j (by omega); omega
    · rcases a3 with e | e
      · rw [e]
        rcases h3 with h | ⟨j, hj, h⟩
        · exact .inl h
        · exact .inr ⟨j, by omega, h⟩
      · rw [e]
        exact .inr ⟨m, by omega, rfl⟩

theorem lb_lub (m : Nat → Nat) (x : Nat → Nat → Int) (n : Nat) : Lub (lb m x n) n m x := by
  induction n with
  | zero => exact ⟨Int.le_refl _, fun i hi => by omega, .inl rfl⟩
  | succ n ih =>
    obtain ⟨h1, h2, h3⟩ := ih
    obtain ⟨a1, a2, a3⟩ := rowMax_spec (lb m x n) (x n) (m n)
    show Lub (rowMax _ _ _) _ _ _
    refine ⟨by omega, fun i hi j hj => ?_, ?_⟩
    · by_cases e : i = n
      · subst e; exact a2 j hj
      · have := h2 i (by omega) j hj; omega
    · rcases a3 with e | ⟨j, hj, e⟩
      · rw [e]
        rcases h3 with h | ⟨i, hi, j, hj, h⟩
        · exact .inl h
        · exact .inr ⟨i, by omega, j, hj, h⟩
      · exact .inr ⟨n, by omega, j, hj, e⟩

theorem lub_unique {r s : Int} {n : Nat} {m : Nat → Nat} {x : Nat → Nat → Int} (h : Lub r n m x) (k : Lub s n m x) : r = s := by
  obtain ⟨h1, h2, h3⟩ := h
  obtain ⟨k1, k2, k3⟩ := k
  have a : r ≤ s := by
    rcases h3 with e | ⟨i, hi, j, hj, e⟩
    · omega
    · have := k2 i hi j hj; omega
  have b : s ≤ r := by
    rcases k3 with e | ⟨i, hi, j, hj, e⟩
    · omega
    · have := h2 i hi j hj; omega
  omega

/-- LAW: cut anywhere. -/
theorem lb_cut (m : Nat → Nat) (x : Nat → Nat → Int) (n k : Nat) (hk : k ≤ n) :
    lb m x n = (if lb (fun i => m (k + i)) (fun i => x (k + i)) (n - k) < lb m x k then lb m x k else lb (fun i => m (k + i)) (fun i => x (k + i)) (n - k)) := by
  have A := lb_lub m x k
  have B := lb_lub (fun i => m (k + i)) (fun i => x (k + i)) (n - k)
  generalize lb m x k = a at *
  generalize lb (fun i => m (k + i)) (fun i => x (k + i)) (n - k) = b at *
  refine lub_unique (lb_lub m x n) ?_
  obtain ⟨a1, a2, a3⟩ := A
  obtain ⟨b1, b2, b3⟩ := B
  refine ⟨by split <;> omega, fun i hi j hj => ?_, ?_⟩
  · by_cases e : i < k
    · have := a2 i e j hj; split <;> omega
    · have := b2 (i - k) (by omega) j (by show j < m (k + (i - k)); rw [show k + (i - k) = i by omega]; exact hj)
      replace this : x (k + (i - k)) j ≤ b := this
      rw [show k + (i - k) = i by omega] at this
      split <;> omega
  · split
    · rcases a3 with e | ⟨i, hi, j, hj, e⟩
      · exact .inl e
      · exact .inr ⟨i, by omega, j, hj, e⟩
    · rcases b3 with e | ⟨i, hi, j, hj, e⟩
      · exact .inl e
      · exact .inr ⟨k + i, by omega, j, hj, e⟩

/-- Rows with one of one number put in at place p. -/
def putM (p : Nat) (m : Nat → Nat) (i : Nat) : Nat := if i < p then m i else if i = p then 1 else m (i - 1)
def putX (p : Nat) (d : Int) (x : Nat → Nat → Int) (i j : Nat) : Int := if i < p then x i j else if i = p then d else x (i - 1) j
/-- LAW: put in anywhere. -/
theorem lb_put (m : Nat → Nat) (x : Nat → Nat → Int) (n p : Nat) (d : Int) (hp : p ≤ n) : lb (putM p m) (putX p d x) (n + 1) = (if d < lb m x n then lb m x n else d) := by
  have A := lb_lub m x n
  generalize lb m x n = a at *
  obtain ⟨a1, a2, a3⟩ := A
  by_cases hd : d < a
  · rw [if_pos hd]
    refine lub_unique (lb_lub _ _ _) ⟨a1, fun i hi j hj => ?_, ?_⟩
    · unfold putX
      unfold putM at hj
      by_cases e : i < p
      · rw [if_pos e] at hj ⊢; exact a2 i (by omega) j hj
      · rw [if_neg e] at hj ⊢
        by_cases e2 : i = p
        · rw [if_pos e2]; omega
        · rw [if_neg e2] at hj ⊢; exact a2 (i - 1) (by omega) j hj
    · rcases a3 with e | ⟨i, hi, j, hj, e⟩
      · exact .inl e
      · by_cases h : i < p
        · exact .inr ⟨i, by omega, j, by rw [putM, if_pos h]; exact hj, by rw [putX, if_pos h]; exact e⟩
        · refine .inr ⟨i + 1, by omega, j, ?_, ?_⟩
          · rw [putM, if_neg (by omega), if_neg (by omega)]; exact hj
          · rw [putX, if_neg (by omega), if_neg (by omega)]; exact e
  · rw [if_neg hd]
    refine lub_unique (lb_lub _ _ _) ⟨by omega, fun i hi j hj => ?_, ?_⟩
    · unfold putX
      unfold putM at hj
      by_cases e : i < p
      · rw [if_pos e] at hj ⊢; have := a2 i (by omega) j hj; omega
      · rw [if_neg e] at hj ⊢
        by_cases e2 : i = p
        · rw [if_pos e2]; exact Int.le_refl _
        · rw [if_neg e2] at hj ⊢; have := a2 (i - 1) (by omega) j hj; omega
    · exact .inr ⟨p, by omega, 0, by rw [putM, if_neg (by omega), if_pos rfl]; omega, by rw [putX, if_neg (by omega), if_pos rfl]⟩

/-! ### How the rows lie -/
theorem cell_lt {w : World} {a : Addr} {v : Value} (h : w.cell? a = some v) : a.block < w.heap.size := by
  rcases Nat.lt_or_ge a.block w.heap.size with hlt | hge
  · exact hlt
  · simp [World.cell?, Array.getElem?_eq_none hge] at h
/-- A slice of numbers. -/
def RowAt (w : World) (v : Value) (m : Nat) (x : Nat → Int) : Prop := ∃ p c, v = .slice p m c ∧ (m = 0 ∨ ∃ b o, p = some ⟨b, o, none⟩ ∧ ∀ j, j < m → w.cell? ⟨b, o + j, none⟩ = some (.int .i64 (x j)))
/-- A slice of slices of numbers. -/
def DaysAt (w : World) (a : Option Addr) (n : Nat) (V : Nat → Value) (m : Nat → Nat) (x : Nat → Nat → Int) : Prop :=
  n = 0 ∨ ∃ b o, a = some ⟨b, o, none⟩ ∧ ∀ i, i < n → w.cell? ⟨b, o + i, none⟩ = some (V i) ∧ RowAt w (V i) (m i) (x i)
theorem RowAt.below {w w' : World} {v : Value} {m : Nat} {x : Nat → Int} (h : RowAt w v m x) (hb : Below w.heap.size w w') : RowAt w' v m x := by
  obtain ⟨p, c, rfl, h⟩ := h
  refine ⟨p, c, rfl, ?_⟩
  rcases h with h | ⟨b, o, rfl, hc⟩
  · exact .inl h
  · exact .inr ⟨b, o, rfl, fun j hj => (hb.cell (cell_lt (hc j hj))).trans (hc j hj)⟩
theorem DaysAt.below {w w' : World} {a : Option Addr} {n : Nat} {V : Nat → Value} {m : Nat → Nat} {x : Nat → Nat → Int} (h : DaysAt w a n V m x) (hb : Below w.heap.size w w') : DaysAt w' a n V m x := by
  rcases h with h | ⟨b, o, rfl, hc⟩
  · exact .inl h
  · exact .inr ⟨b, o, rfl, fun i hi => ⟨(hb.cell (cell_lt (hc i hi).1)).trans (hc i hi).1, (hc i hi).2.below hb⟩⟩
/-- A set of moves, none of it in a block up to g. -/
def SetAt (g : Nat) (w : World) (u : Value) (m : Nat) (x : Nat → Int) : Prop :=
  ∃ P p c, u = .pointer (some ⟨P, 0, none⟩) ∧ g < P ∧ w.cell? ⟨P, 16, none⟩ = some (.slice p m c) ∧
    (m = 0 ∨ ∃ r, p = some ⟨r, 0, none⟩ ∧ g < r ∧ ∀ j, j < m → w.cell? ⟨r, j * 3, none⟩ = some (.int .i64 (x j)) ∧ w.cell? ⟨r, j * 3 + 1, none⟩ = some (.pointer none) ∧ w.cell? ⟨r, j * 3 + 2, none⟩ = some (.int .i32 0))
/-- What lies behind block g stays. -/
def Keeps (g : Nat) (w w' : World) : Prop := ∀ a v, g < a.block → w.cell? a = some v → w'.cell? a = some v
theorem Keeps.trans {g : Nat} {a b c : World} (h : Keeps g a b) (k : Keeps g b c) : Keeps g a c := fun p v hp hv => k p v hp (h p v hp hv)
theorem Keeps.below {g : Nat} {w w' : World} (h : Below w.heap.size w w') : Keeps g w w' := fun _ _ _ hv => (h.cell (cell_lt hv)).trans hv
theorem Keeps.grown {g : Nat} {w w' : World} (h : w.grownBy w' (some g)) : Keeps g w w' := fun a v ha hv => by
  rw [World.cell?_of_block (w := w) (h.block a.block (cell_lt hv) (by simp; omega))]
  exact hv
theorem SetAt.keeps {g : Nat} {w w' : World} {u : Value} {m : Nat} {x : Nat → Int} (h : SetAt g w u m x) (hk : Keeps g w w') : SetAt g w' u m x := by
  obtain ⟨P, p, c, rfl, hP, h1, h2⟩ := h
  refine ⟨P, p, c, rfl, hP, hk _ _ hP h1, ?_⟩
  rcases h2 with h2 | ⟨r, rfl, hr, hc⟩
  · exact .inl h2
  · exact .inr ⟨r, rfl, hr, fun j hj => ⟨hk _ _ hr (hc j hj).1, hk _ _ hr (hc j hj).2.1, hk _ _ hr (hc j hj).2.2⟩⟩
/-- The sets. -/
def SetsAt (w : World) (v : Value) (n : Nat) (m : Nat → Nat) (x : Nat → Nat → Int) : Prop :=
  ∃ (g c : Nat) (U : Nat → Value), v = .slice (some ⟨g, 0, none⟩) n c ∧ ∀ i, i < n → w.cell? ⟨g, i, none⟩ = some (U i) ∧ SetAt g w (U i) (m i) (x i)
end Go.Proofs.Qxb6613826a.Lb
