import Derived.Test.Qxb6613789aRp5
import Derived.Test.Qxb6613789aRp3
import Derived.Test.Qxb6613789aCs6
namespace Go.Proofs.Qxb6613789a.Rp
open Go.RowKit
attribute [local go_sem ↓] Go.wp_at_zero Go.wp_at_succ

set_option maxHeartbeats 400000 in
theorem znewSet_of (v : Value) (w : World) (Q : Nat → World → Prop) (h : Calls Try.prog 31 #[v] w fun e w' => ∃ S, e = .returned (.pointer (some ⟨S, 0, none⟩)) ∧ Q S w') :
    Calls Try.prog 8 #[v] w fun e w' => ∃ S, e = .returned (.pointer (some ⟨S, 0, none⟩)) ∧ Q S w' := by
  go_enter Try.func8, Try.ntmps8
  go_wp2_with fail
  refine h.mono ?_
  clear h
  rintro e w' ⟨S, rfl, hq⟩
  have HQ : Hid (Q S w') := hq
  clear hq
  go_wp2_with fail
  go_ret
  exact ⟨S, rfl, HQ.out⟩

theorem one_of_made {w w' : World} {lo hi : Int} {e : Ending} (h : Cs.Made w [(lo, hi)] e w') : ∃ S, e = .returned (.pointer (some ⟨S, 0, none⟩)) ∧ OneSet w' S lo hi ∧ Below w.heap.size w w' := by
  obtain ⟨S, ds, ar, cap, x0, x1, he, _, hset, hp, _, hb⟩ := h
  obtain rfl : ds = [(lo, hi)] := List.perm_singleton.1 hp
  refine ⟨S, he, ?_, hb⟩
  have hm : Cs.mergeK [(lo, hi)] [(lo, hi)].length = Cs.mstep [] (lo, hi) := rfl
  rw [hm] at hset
  by_cases hlt : hi < lo
  · rw [Cs.mstep_skip hlt] at hset
    exact .inl ⟨hlt, ar, cap, hset.c0⟩
  · rw [Cs.mstep_first hlt] at hset
    rcases hset.row with h | ⟨g, rfl, hr⟩
    · cases h
    · have := hr 0 (by simp)
      exact .inr ⟨by omega, g, cap, hset.c0, this.1, this.2⟩

/-- ZZnewSet of the one range. -/
theorem set_one (lo hi : Int) (o : Obj) (W : World) (h0 : 0 ≤ lo) (h1 : lo ≤ 1114111) (h2 : 0 ≤ hi) (h3 : hi ≤ 1114111) :
    Calls Try.prog 8 #[.slice (some ⟨W.heap.size + 1, 0, none⟩) 1 1] ((W.alloc o).alloc (.cells #[.int .i32 lo, .int .i32 hi] 27)) fun e w' => ∃ S, e = .returned (.pointer (some ⟨S, 0, none⟩)) ∧ OneSet w' S lo hi ∧ Below W.heap.size W w' := by
  rw [show W.heap.size + 1 = (W.alloc o).heap.size by simp]
  refine znewSet_of _ _ (fun S w' => OneSet w' S lo hi ∧ Below W.heap.size W w') ?_
  have hown : ((W.alloc o).alloc (.cells #[.int .i32 lo, .int .i32 hi] 27)).ownsRow 0 27 2 (.slice (some ⟨(W.alloc o).heap.size, 0, none⟩) 1 1) 1 (Cs.flat [(lo, hi)]) := World.ownsRow_lit (W.alloc o) #[.int .i32 lo, .int .i32 hi] 1 (Nat.zero_le _) (by unfold maxLen; omega) rfl
  refine (Cs.newSet_row 0 _ 1 [(lo, hi)] _ hown (by intro r hr; simp at hr; subst hr; exact ⟨h0, h1, h2, h3⟩) (by simp)).mono ?_
  intro e w' hm
  obtain ⟨S, he, hs, hb⟩ := one_of_made hm
  exact ⟨S, he, hs, (((Below.refl _ W).alloc (Nat.le_refl _) o).alloc (by simp) _).trans (hb.mono (by simp; omega))⟩

set_option maxHeartbeats 400000 in
theorem znode_of (C N : Nat) (w : World) (Q : World → Prop) (h : Calls Try.prog 33 #[.pointer (some ⟨C, 0, none⟩), .pointer (some ⟨N, 0, none⟩)] w fun e w' => e = .returned .nilIface ∧ Q w') :
    Calls Try.prog 14 #[.pointer (some ⟨C, 0, none⟩), .pointer (some ⟨N, 0, none⟩)] w fun e w' => e = .returned .nilIface ∧ Q w' := by
  go_enter Try.func14, Try.ntmps14
  go_wp2_with fail
  refine h.mono ?_
  clear h
  rintro e w' ⟨rfl, hq⟩
  have HQ : Hid (Q w') := hq
  clear hq
  go_wp2_with fail
  go_ret
  exact ⟨rfl, HQ.out⟩

set_option maxHeartbeats 400000 in
theorem zrepeat_of (C N : Nat) (w : World) (Q : World → Prop) (h : Calls Try.prog 34 #[.pointer (some ⟨C, 0, none⟩), .pointer (some ⟨N, 0, none⟩)] w fun e w' => e = .returned .nilIface ∧ Q w') :
    Calls Try.prog 18 #[.pointer (some ⟨C, 0, none⟩), .pointer (some ⟨N, 0, none⟩)] w fun e w' => e = .returned .nilIface ∧ Q w' := by
  go_enter Try.func18, Try.ntmps18
  go_wp2_with fail
  refine h.mono ?_
  clear h
  rintro e w' ⟨rfl, hq⟩
  have HQ : Hid (Q w') := hq
  clear hq
  go_wp2_with fail
  go_ret
  exact ⟨rfl, HQ.out⟩

/-- A view, of an instruction that is known. -/
theorem view_is (C base : Nat) (v : Value) (is : List In) (L : Int) (j : Nat) (i : In) (hj : is[j]? = some i) (hn : is.length ≤ 100000) (w : World) (h : Comp w C base v is L) :
    Calls Try.prog 17 #[.pointer (some ⟨C, 0, none⟩), .int .i64 j] w fun e w' => e = .returned (.agg #[.int .u8 i.op, .int .i64 i.x, .int .i64 i.y, .int .i64 i.n, .pointer i.set, .int .i32 i.r, .int .i64 i.min, .int .i64 i.max, .bool i.lazy, .int .u8 0, .bool false, .bool false, .bool false, .bool false, .int .i64 0, .int .i32 0]) ∧ ∃ o1 o2, (w.alloc o1).alloc o2 = w' := by
  obtain ⟨hlt, he⟩ := List.getElem?_eq_some_iff.1 hj
  have := view_any C base v is L j hlt hn w h
  rw [he] at this
  exact this

/-- A slice that owns: its form. -/
theorem own_slice {w : World} {base : Nat} {e : TypeId} {size : Nat} {v : Value} {n : Nat} {xs : List Value} (h : w.ownsRow base e size v n xs) : ∃ ao cap, v = .slice ao n cap := by
  rcases h.2 with ⟨h', h0⟩ | ⟨g, cap, cur, h', _⟩
  · exact ⟨_, _, by rw [h0]; exact h'⟩
  · exact ⟨_, _, h'⟩
theorem Ops.below {w w' : World} {a : Option Addr} {n : Nat} {f : Nat → Int} (h : Ops w a n f) (hb : Below w.heap.size w w') : Ops w' a n f := by
  rcases h with h | ⟨b, o, rfl, hc⟩
  · exact .inl h
  · exact .inr ⟨b, o, rfl, fun j hj => (hb.cell (cell_lt (hc j hj))).trans (hc j hj)⟩
theorem OneSet.below {w w' : World} {S : Nat} {lo hi : Int} (h : OneSet w S lo hi) (hb : Below w.heap.size w w') : OneSet w' S lo hi := by
  have hc : ∀ {a : Addr} {v : Value}, w.cell? a = some v → w'.cell? a = some v := fun {a v} hv => (hb.cell (cell_lt hv)).trans hv
  rcases h with ⟨h1, ar, cap, h2⟩ | ⟨h1, g, cap, h2, h3, h4⟩
  · exact .inl ⟨h1, ar, cap, hc h2⟩
  · exact .inr ⟨h1, g, cap, hc h2, hc h3, hc h4⟩
theorem opsI_get (f : Nat → Int) (n j : Nat) (hj : j < n) (is : List In) : (opsI f n ++ is)[j]? = some { op := f j } := by
  rw [List.getElem?_append_left (by rw [opsI_length]; exact hj)]
  simp [opsI, hj]
theorem opsI_last (f : Nat → Int) (n : Nat) (i : In) (is : List In) : (opsI f n ++ i :: is)[n]? = some i := by
  rw [List.getElem?_append_right (by rw [opsI_length]; exact Nat.le_refl _), opsI_length]
  simp
end Go.Proofs.Qxb6613789a.Rp
