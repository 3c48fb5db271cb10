import Derived.Test.Qxb6613789aCs3
import Derived.Deep.RegionWith
namespace Go.Proofs.Qxb6613789a.Cs
open Go.RowKit
attribute [local go_sem ↓] Go.wp_at_zero Go.wp_at_succ

/-- Ranges, flat: two cells each. -/
def flat (m : List (Int × Int)) : List Value := m.flatMap fun r => [.int .i32 r.1, .int .i32 r.2]
theorem flat_nil : flat [] = [] := rfl
theorem flat_append (a b : List (Int × Int)) : flat (a ++ b) = flat a ++ flat b := by simp [flat]
theorem flat_one (r : Int × Int) : flat [r] = [.int .i32 r.1, .int .i32 r.2] := rfl
theorem flat_length (m : List (Int × Int)) : (flat m).length = m.length * 2 := by
  induction m with
  | nil => rfl
  | cons a m ih => simp [flat] at *; omega
theorem flat_get (m : List (Int × Int)) (j : Nat) (hj : j < m.length) : (flat m)[j * 2]? = some (.int .i32 (at' m j).1) ∧ (flat m)[j * 2 + 1]? = some (.int .i32 (at' m j).2) := by
  induction m generalizing j with
  | nil => simp at hj
  | cons a m ih =>
    have e : flat (a :: m) = .int .i32 a.1 :: .int .i32 a.2 :: flat m := rfl
    cases j with
    | zero => rw [e]; exact ⟨rfl, rfl⟩
    | succ j =>
      have := ih j (by simpa using hj)
      rw [e, show (j + 1) * 2 = j * 2 + 1 + 1 by omega, List.getElem?_cons_succ, List.getElem?_cons_succ, show j * 2 + 1 + 1 + 1 = j * 2 + 1 + 1 + 1 from rfl, List.getElem?_cons_succ, List.getElem?_cons_succ]
      simpa [at'] using this
/-- The cells of ranges that are owned. -/
theorem own_cells {w : World} {base g n cap : Nat} {m : List (Int × Int)} (h : w.ownsRow base 27 2 (.slice (some ⟨g, 0, none⟩) n cap) n (flat m)) (j : Nat) (hj : j < m.length) :
    w.cell? ⟨g, j * 2, none⟩ = some (.int .i32 (at' m j).1) ∧ w.cell? ⟨g, j * 2 + 1, none⟩ = some (.int .i32 (at' m j).2) := by
  have f := flat_get m j hj
  have hl := h.1
  rw [flat_length] at hl
  exact ⟨(h.cellAt (j * 2) (by omega)).trans f.1, (h.cellAt (j * 2 + 1) (by omega)).trans f.2⟩
/-- Ascending by the first character. -/
def Sorted (d : List (Int × Int)) : Prop := d.Pairwise fun a b => a.1 ≤ b.1
theorem flatTo_flat (lo hi : Nat → Int) (n : Nat) : flatTo lo hi n = flat ((List.range n).map fun k => (lo k, hi k)) := by
  induction n with
  | zero => rfl
  | succ n ih => rw [flatTo, ih, List.range_succ, List.map_append, flat_append]; rfl

theorem below_drewN {B : Nat} {a w : World} (h : Below B a w) (n : Nat) : Below B a (w.drewN n) := h.trans ⟨rfl, rfl, rfl, Nat.le_refl _, fun _ _ => rfl⟩
/-- A value that owns nothing is an empty slice. -/
theorem own_none {w : World} {base : Nat} {e : TypeId} {size : Nat} {v : Value} {xs : List Value} (h : w.ownsRow base e size v 0 xs) : ∃ ao cap, v = .slice ao 0 cap := by
  rcases h.2 with ⟨h', _⟩ | ⟨g, cap, cur, h', _⟩
  · exact ⟨_, _, h'⟩
  · exact ⟨_, _, h'⟩
theorem cell_lt {w : World} {a : Addr} {v : Value} (h : w.cell? a = some v) : a.block < w.heap.size := by
  rcases Nat.lt_or_ge a.block w.heap.size with hlt | hge
  · exact hlt
  · simp [World.cell?, Array.getElem?_eq_none hge] at h

/-- A row that is owned, as a charSet wants it. -/
theorem own_row {w : World} {base : Nat} {v : Value} {m : List (Int × Int)} (h : w.ownsRow base 27 2 v m.length (flat m)) : ∃ ao cap, v = .slice ao m.length cap ∧ m.length ≤ cap ∧ RowAt w ao m := by
  rcases h.2 with ⟨h', h0⟩ | ⟨g, cap, cur, h', hb, hg, hnc, _⟩
  · have : m = [] := List.eq_nil_of_length_eq_zero h0
    subst this
    exact ⟨none, 0, h', Nat.le_refl _, .inl rfl⟩
  · subst h'
    exact ⟨_, _, rfl, hnc, .inr ⟨g, rfl, fun j hj => own_cells h j hj⟩⟩
theorem flat_setlast (m : List (Int × Int)) (l : Int × Int) (y : Int) : (flat (m ++ [l])).set (m.length * 2 + 1) (.int .i32 y) = flat (m ++ [(l.1, y)]) := by
  rw [flat_append, flat_append, flat_one, flat_one, List.set_append_right _ _ (by rw [flat_length]; omega), flat_length, show m.length * 2 + 1 - m.length * 2 = 1 by omega]
  rfl

theorem RowAt_below {w w' : World} {ar : Option Addr} {m : List (Int × Int)} (h : RowAt w ar m) (hb : Below w.heap.size w w') : RowAt w' ar m := by
  rcases h with rfl | ⟨g, rfl, hr⟩
  · exact .inl rfl
  · refine .inr ⟨g, rfl, fun j hj => ?_⟩
    obtain ⟨a, b⟩ := hr j hj
    exact ⟨(hb.cell (p := ⟨g, j * 2, none⟩) (cell_lt a)).trans a, (hb.cell (p := ⟨g, j * 2 + 1, none⟩) (cell_lt b)).trans b⟩
theorem SetAt.below {w w' : World} {S : Nat} {m : List (Int × Int)} {ar : Option Addr} {cap : Nat} {x0 x1 : Int} (h : SetAt w S m ar cap x0 x1) (hb : Below w.heap.size w w') : SetAt w' S m ar cap x0 x1 :=
  ⟨(hb.cell (cell_lt h.c0)).trans h.c0, (hb.cell (cell_lt h.c1)).trans h.c1, (hb.cell (cell_lt h.c2)).trans h.c2, h.le, RowAt_below h.row hb, h.sep, h.bm, h.len⟩

/-- The ranges rs, put into order: they lie at 'ar'. -/
def Prepared (w : World) (rs : List (Int × Int)) (ar : Option Addr) (w2 : World) : Prop := ∃ ds, ds.Perm rs ∧ Sorted ds ∧ RowAt w2 ar ds ∧ Below w.heap.size w w2

set_option maxRecDepth 100000 in
set_option maxHeartbeats 2000000 in
theorem newSet_of (av : Value) (rs : List (Int × Int)) (w : World) (hn : rs.length ≤ 1000000) (hok : ∀ r ∈ rs, Ok r)
    (hcl : Calls Try.prog 37 #[av] w fun e w1 => ∃ ar cap, e = .returned (.slice ar rs.length cap) ∧ Calls Try.prog 38 #[.slice ar rs.length cap, .func (.func 39) #[] #[]] w1 fun e' w2 => e' = .returned (.tuple #[]) ∧ Prepared w rs ar w2) :
    Calls Try.prog 31 #[av] w fun e w' => ∃ S ds ar cap x0 x1, e = .returned (.pointer (some ⟨S, 0, none⟩)) ∧ w.heap.size ≤ S ∧ SetAt w' S (mergeK ds ds.length) ar cap x0 x1 ∧ ds.Perm rs ∧ Sorted ds ∧ Below w.heap.size w w' := by
  obtain ⟨i0, hi0, hz0, hz1, hz2⟩ := info_parts info27
  go_enter Try.func31, Try.ntmps31
  go_wp2_with fail
  refine hcl.mono ?_
  clear hcl
  rintro e w1 ⟨ar, cap, rfl, hso⟩
  go_wp2_with fail
  refine hso.mono ?_
  clear hso
  rintro e w2 ⟨rfl, ds, hperm, hsort, hrow, hbel0⟩
  have hlen := hperm.length_eq
  have hokd : ∀ r ∈ ds, Ok r := fun r hr => hok r (hperm.mem_iff.1 hr)
  have HM := fun k hk => mergeK_all ds hsort hokd k hk
  have hlen' : (rs.length : Int) = (ds.length : Int) := by omega
  go_wp2_with fail
  go_loopw [4, 18] (fun v i wr => ∃ k : Nat, k ≤ ds.length ∧ i = .int .i64 k ∧ wr.ownsRow w2.heap.size 27 2 v (mergeK ds k).length (flat (mergeK ds k)) ∧ Below w2.heap.size w2 wr) (fun _ i _ => ds.length - (intOf i).toNat)
  case atStart => exact ⟨0, Nat.zero_le _, rfl, World.ownsRow_nil _ _ _ _, Below.refl _ _⟩
  case round =>
    obtain ⟨k, hk, rfl, hown, hbel⟩ := hrel
    by_cases hlt : k < ds.length
    · obtain ⟨g, rfl, hr⟩ : ∃ g, ar = some ⟨g, 0, none⟩ ∧ ∀ j, j < ds.length → w2.cell? ⟨g, j * 2, none⟩ = some (.int .i32 (at' ds j).1) ∧ w2.cell? ⟨g, j * 2 + 1, none⟩ = some (.int .i32 (at' ds j).2) := by
        rcases hrow with rfl | h
        · simp at hlt
        · exact h
      have hg2 : g < w2.heap.size := cell_lt (hr k hlt).1
      have hgw : g < wr.heap.size := Nat.lt_of_lt_of_le hg2 hbel.size
      have z1 := (hbel.cell (p := ⟨g, k * 2, none⟩) hg2).trans (hr k hlt).1
      have z2 := (hbel.cell (p := ⟨g, k * 2 + 1, none⟩) hg2).trans (hr k hlt).2
      have hsep : Sep (mergeK ds k) := (HM k hk).1
      have hml : (mergeK ds k).length ≤ k := mergeK_length ds k
      have hnx : Hid (mergeK ds (k + 1) = mstep (mergeK ds k) (at' ds k)) := by rw [at_get hlt]; exact mergeK_succ ds k hlt
      have hokr : Ok (at' ds k) := by rw [at_get hlt]; exact hokd _ (List.getElem_mem hlt)
      clear HM hr hrow
      generalize mergeK ds k = m at *
      generalize at' ds k = r at *
      unfold Ok at hokr
      have hk0 : (0 : Int) ≤ (k : Int) := Int.natCast_nonneg _
      have hk1 : (k : Int) < (rs.length : Int) := by omega
      have hsz := hbel.size
      by_cases hsk : r.2 < r.1
      · go_wp2_with fail
        go_roundw
        case rel => exact ⟨k + 1, by omega, by go_num, by rw [hnx.out, mstep_skip hsk]; exact hown.alloc _, hbel.alloc hsz _⟩
        case measure => simp [intOf]; omega
      · rcases snoc_cases m with rfl | ⟨m', l, rfl⟩
        · obtain ⟨ao, cp, rfl⟩ := own_none hown
          go_wp2_with fail
          go_quiet (fail)
          go_wp2_with (at_builtin; refine wpList_append_lies _ rfl (.tmp 57) (.tmp 59) 29 rfl w2.heap.size 27 i0 _ 2 8 Try.underlying29 hi0 hz0 hz1 hz2 rfl (by omega) (.slice ao 0 cp) 0 _ rfl (((hown.alloc _).drew).alloc _) ⟨wr.heap.size + 1, 0, none⟩ 1 1 [.int .i32 r.1, .int .i32 r.2] rfl (by rfl) (news_at _ _ _ _ (by simp)) (by simp [Value.oneCell']) (by omega) (by unfold maxLen; omega) (by omega) (by simp; omega) (wr.heap.size + 2) (by simp) ?_; intro g' cap' w3 hown3 hgrow3 hat3 hlt3)
          have hbel3 : Below w2.heap.size w2 w3 := ((below_drewN (hbel.alloc hsz _) nq).alloc (by simp; omega) _).grown hgrow3 (by simp; omega) (fun k hk => (hown.lt k hk).1)
          go_wp2_with fail
          go_roundw
          case rel => exact ⟨k + 1, by omega, by go_num, by rw [hnx.out, mstep_first (show ¬ r.2 < r.1 by omega)]; exact hown3, hbel3⟩
          case measure => simp [intOf]; omega
        · have hq : (m' ++ [l]).length = m'.length + 1 := by simp
          rw [hq] at hown hml
          obtain ⟨gm, cm, rfl, hgm, hgm2⟩ := hown.form (by omega)
          have hlst := own_cells hown m'.length (by omega)
          rw [show at' (m' ++ [l]) m'.length = l by simp [at']] at hlst
          obtain ⟨y1, y2⟩ := hlst
          have f2 := hown.frozenAt (m'.length * 2 + 1)
          have hokl := (hsep.2 l (by simp)).2
          unfold Ok at hokl
          have hl1 := hokl.2.2.1
          have hl2 := hokl.2.2.2
          have HF : Hid (flat (m' ++ [l]) = flat m' ++ [.int .i32 l.1, .int .i32 l.2]) := by rw [flat_append]; rfl
          have HL : Hid ((flat m').length = m'.length * 2) := flat_length m'
          have HM' : Hid (m'.length = m'.length) := rfl
          generalize hqq : m'.length = q at *
          have HQ : Hid (m'.length = q) := hqq
          clear hqq hq hokl HM'
          have hdq : decide ((0 : Int) < (q : Int) + 1) = true := by simp
          have hq0 : (0 : Int) ≤ (q : Int) := Int.natCast_nonneg _
          have hq1 : (q : Int) ≤ 1000000 := by omega
          by_cases hj : r.1 ≤ l.2 + 1
          · go_wp2_with fail
            go_quiet (fail)
            go_wp2_with fail
            go_region
            go_wp2_with fail
            go_roundw
            case rel =>
              have hst := ((hown.alloc (.cells #[.int .i32 r.1, .int .i32 r.2] 27)).drew.stored (q * 2 + 1) (.int .i32 (if l.2 < r.2 then r.2 else l.2))).1
              refine ⟨k + 1, by omega, by go_num, ?_, (below_drewN (hbel.alloc hsz _) (nq + 1)).setCell hgm _⟩
              rw [hnx.out, mstep_join (show ¬ r.2 < r.1 by omega) (show r.1 ≤ l.2 + 1 by omega), ← flat_setlast, HQ.out]
              have e : max l.2 r.2 = if l.2 < r.2 then r.2 else l.2 := by by_cases hx : l.2 < r.2 <;> simp [hx] <;> omega
              rw [e, List.length_append, HQ.out]
              exact hst
            case measure => simp [intOf]; omega
          · go_wp2_with fail
            go_quiet (fail)
            go_wp2_with (at_builtin; refine wpList_append_lies _ rfl (.tmp 57) (.tmp 59) 29 rfl w2.heap.size 27 i0 _ 2 8 Try.underlying29 hi0 hz0 hz1 hz2 rfl (by omega) (.slice (some ⟨gm, 0, none⟩) (q + 1) cm) (q + 1) _ rfl (((hown.alloc _).drew).alloc _) ⟨wr.heap.size + 1, 0, none⟩ 1 1 [.int .i32 r.1, .int .i32 r.2] rfl (by rfl) (news_at _ _ _ _ (by simp)) (by simp [Value.oneCell']) (by omega) (by unfold maxLen; omega) (by omega) (by simp; omega) (wr.heap.size + 2) (by simp) ?_; intro g' cap' w3 hown3 hgrow3 hat3 hlt3)
            have hbel3 : Below w2.heap.size w2 w3 := ((below_drewN (hbel.alloc hsz _) nq).alloc (by simp; omega) _).grown hgrow3 (by simp; omega) (fun k hk => (hown.lt k hk).1)
            go_wp2_with fail
            go_roundw
            case rel =>
              refine ⟨k + 1, by omega, by go_num, ?_, hbel3⟩
              rw [hnx.out, mstep_next (show ¬ r.2 < r.1 by omega) (show ¬ r.1 ≤ l.2 + 1 by omega), flat_append, flat_one, List.length_append, List.length_append, HQ.out]
              exact hown3
            case measure => simp [intOf]; omega
    · obtain rfl : k = ds.length := by omega
      obtain ⟨ao, cp, rfl, hcp, hrw⟩ := own_row hown
      have hS : Below w.heap.size w wr := hbel0.trans (hbel.mono hbel0.size)
      have hsep : Sep (mergeK ds ds.length) := (HM _ hk).1
      have hml : (mergeK ds ds.length).length ≤ ds.length := mergeK_length ds _
      clear HM hrow hown
      have HE : Hid (∃ m, m = mergeK ds ds.length) := ⟨_, rfl⟩
      generalize hmm : mergeK ds ds.length = m at *
      have HMM : Hid (mergeK ds ds.length = m) := hmm
      clear hmm HE
      obtain ⟨wo, rfl⟩ : ∃ wo : World, wo = wr := ⟨_, rfl⟩
      go_wp2_with fail
      go_loopw [67] (fun i wr => ∃ (k : Nat) (x0 x1 : Int), k ≤ m.length ∧ i = .int .i64 k ∧ wr.heap[wo.heap.size]? = some (.cells #[.slice ao m.length cp, .int .u64 x0, .int .u64 x1] 92) ∧ BM (m.take k) x0 x1 ∧ Below wo.heap.size wo wr) (fun i _ => m.length - (intOf i).toNat)
      case atStart => exact ⟨0, 0, 0, Nat.zero_le _, rfl, heap_alloc_new _ _, BM_nil, (Below.refl _ _).alloc (Nat.le_refl _) _⟩
      case round =>
        obtain ⟨k, x0, x1, hk, rfl, hhp, hbm, hbl⟩ := hrel
        by_cases hlt : k < m.length
        · obtain ⟨g, rfl, hr⟩ : ∃ g, ao = some ⟨g, 0, none⟩ ∧ ∀ j, j < m.length → wo.cell? ⟨g, j * 2, none⟩ = some (.int .i32 (at' m j).1) ∧ wo.cell? ⟨g, j * 2 + 1, none⟩ = some (.int .i32 (at' m j).2) := by
            rcases hrw with rfl | h
            · simp at hlt
            · exact h
          have hg2 : g < wo.heap.size := cell_lt (hr k hlt).1
          have z1 := (hbl.cell (p := ⟨g, k * 2, none⟩) hg2).trans (hr k hlt).1
          have z2 := (hbl.cell (p := ⟨g, k * 2 + 1, none⟩) hg2).trans (hr k hlt).2
          have hgw : g < wr.heap.size := cell_lt z1
          have hokr := (sep_ok hsep hlt)
          have htk : Hid (m.take (k + 1) = m.take k ++ [at' m k]) := by rw [at_get hlt]; exact List.take_succ_eq_append_getElem hlt
          have hSw : wo.heap.size < wr.heap.size := by
            rcases Nat.lt_or_ge wo.heap.size wr.heap.size with h | h
            · exact h
            · rw [Array.getElem?_eq_none h] at hhp; cases hhp
          generalize at' m k = r at *
          unfold Ok at hokr
          have hk1 : (k : Int) < (m.length : Int) := by omega
          obtain ⟨wq, rfl⟩ : ∃ wq : World, wq = wr := ⟨_, rfl⟩
          go_wp2_with fail
          go_loopw [11] (fun v wr => ∃ (c y0 y1 : Int), r.1 ≤ c ∧ c ≤ r.2 + 1 ∧ v = .int .i32 c ∧ wr.heap[wo.heap.size]? = some (.cells #[.slice (some ⟨g, 0, none⟩) m.length cp, .int .u64 y0, .int .u64 y1] 92) ∧ wr.heap[wq.heap.size]? = some (.cells #[.int .i32 r.1, .int .i32 r.2] 27) ∧ BMto (m.take k) r.1 c y0 y1 ∧ Below wo.heap.size wo wr) (fun v _ => (r.2 + 1 - intOf v).toNat)
          case atStart => exact ⟨r.1, x0, x1, Int.le_refl _, by omega, rfl, (Below.heap_alloc _ _ _ hSw).trans hhp, heap_alloc_new _ _, BM_start hbm _, hbl.alloc (by omega) _⟩
          case round =>
            obtain ⟨c, y0, y1, hc1, hc2, rfl, hhp2, hhT, hbmt, hbl2⟩ := hrel
            have t2 : wr.cell? ⟨wq.heap.size, 1, none⟩ = some (.int .i32 r.2) := by rw [cell_of_row wr _ 1 _ _ (0, 0) hhT]; rfl
            have s1 : wr.cell? ⟨wo.heap.size, 1, none⟩ = some (.int .u64 y0) := by rw [cell_of_row wr _ 1 _ _ (0, 0) hhp2]; rfl
            have s2 : wr.cell? ⟨wo.heap.size, 2, none⟩ = some (.int .u64 y1) := by rw [cell_of_row wr _ 2 _ _ (0, 0) hhp2]; rfl
            have f1 : wr.frozen? ⟨wo.heap.size, 1, none⟩ = false := frozen_of_row wr _ 1 _ _ hhp2
            have f2 : wr.frozen? ⟨wo.heap.size, 2, none⟩ = false := frozen_of_row wr _ 2 _ _ hhp2
            have HT : Hid (wr.heap[wq.heap.size]? = some (.cells #[.int .i32 r.1, .int .i32 r.2] 27)) := hhT
            have HS : Hid (wr.heap[wo.heap.size]? = some (.cells #[.slice (some ⟨g, 0, none⟩) m.length cp, .int .u64 y0, .int .u64 y1] 92)) := hhp2
            clear hhT hhp2
            by_cases hc : c ≤ r.2
            · by_cases hd : c < 128
              · by_cases he : c < 64
                · have q0 : c.tdiv 64 = 0 := by rw [Int.tdiv_eq_ediv_of_nonneg (by omega)]; omega
                  go_wp2_with fail
                  go_region
                  go_wp2_with fail
                  go_roundw
                  case rel => exact ⟨c + 1, ob y0 (c % 64).toNat, y1, by omega, by omega, by go_num, heap_setCell_same wr _ 1 _ _ _ HS.out, (heap_setCell_other wr ⟨wo.heap.size, 1, none⟩ _ _ (by simp; omega)).trans HT.out, BM_low hbmt hc1 (by omega) he, (hbl2.setCell (p := ⟨wo.heap.size, 1, none⟩) (Nat.le_refl _) _).drew⟩
                  case measure => simp [intOf]; omega
                · have q0 : c.tdiv 64 = 1 := by rw [Int.tdiv_eq_ediv_of_nonneg (by omega)]; omega
                  go_wp2_with fail
                  go_region
                  go_wp2_with fail
                  go_roundw
                  case rel => exact ⟨c + 1, y0, ob y1 (c % 64).toNat, by omega, by omega, by go_num, heap_setCell_same wr _ 2 _ _ _ HS.out, (heap_setCell_other wr ⟨wo.heap.size, 2, none⟩ _ _ (by simp; omega)).trans HT.out, BM_high hbmt hc1 (by omega) hd, (hbl2.setCell (p := ⟨wo.heap.size, 2, none⟩) (Nat.le_refl _) _).drew⟩
                  case measure => simp [intOf]; omega
              · go_wp2_with fail
                go_roundw
                case rel => exact ⟨k + 1, y0, y1, by omega, by go_num, HS.out, by rw [htk.out]; exact BM_end hbmt (.inr (by omega)) (.inl hc2), hbl2⟩
                case measure => simp [intOf]; omega
            · go_wp2_with fail
              go_roundw
              case rel => exact ⟨k + 1, y0, y1, by omega, by go_num, HS.out, by rw [htk.out]; exact BM_end hbmt (.inl (by omega)) (.inl hc2), hbl2⟩
              case measure => simp [intOf]; omega
        · obtain rfl : k = m.length := by omega
          rw [List.take_length] at hbm
          have e0 : wr.cell? ⟨wo.heap.size, 0, none⟩ = some (.slice ao m.length cp) := by rw [cell_of_row wr _ 0 _ _ (0, 0) hhp]; rfl
          have e1 : wr.cell? ⟨wo.heap.size, 1, none⟩ = some (.int .u64 x0) := by rw [cell_of_row wr _ 1 _ _ (0, 0) hhp]; rfl
          have e2 : wr.cell? ⟨wo.heap.size, 2, none⟩ = some (.int .u64 x1) := by rw [cell_of_row wr _ 2 _ _ (0, 0) hhp]; rfl
          have hset : SetAt wr wo.heap.size m ao cp x0 x1 := ⟨e0, e1, e2, hcp, RowAt_below hrw hbl, hsep, hbm, by omega⟩
          clear e0 e1 e2
          go_wp2_with fail
          go_ret
          exact ⟨wo.heap.size, ds, ao, cp, x0, x1, rfl, hS.size, by rw [HMM.out]; exact hset, hperm, hsort, hS.trans (hbl.mono hS.size)⟩
end Go.Proofs.Qxb6613789a.Cs
