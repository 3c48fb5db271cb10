import Derived.Test.Qxb6609495aCh2
namespace Go.Proofs.Qxb6609495a.Ch
open Go.RowKit
attribute [local go_sem ↓] Go.wp_at_zero Go.wp_at_succ

theorem news_at (W : World) (B : Nat) (cs : Array Value) (t : TypeId) (hB : B = W.heap.size) : ∀ j u, cs.toList[j]? = some u → (W.alloc (.cells cs t)).cell? ((⟨B, 0, none⟩ : Addr).add j) = some u := by
  subst hB; exact World.news_of_block (heap_alloc_new W _)

/-- Pointers to the records from place o on. -/
def ptrs (p : Nat → Nat) (o : Nat) : Nat → List Value
  | 0 => []
  | t + 1 => ptrs p o t ++ [.pointer (some ⟨p (o + t), 0, none⟩)]
theorem ptrs_length (p : Nat → Nat) (o t : Nat) : (ptrs p o t).length = t := by
  induction t with
  | zero => rfl
  | succ t ih => simp [ptrs, ih]
theorem ptrs_get (p : Nat → Nat) (o t i : Nat) (hi : i < t) : (ptrs p o t)[i]? = some (.pointer (some ⟨p (o + i), 0, none⟩)) := by
  induction t with
  | zero => omega
  | succ t ih =>
    have e : ptrs p o (t + 1) = ptrs p o t ++ [.pointer (some ⟨p (o + t), 0, none⟩)] := rfl
    have hl := ptrs_length p o t
    by_cases h : i < t
    · rw [e, List.getElem?_append_left (by omega)]; exact ih h
    · obtain rfl : i = t := by omega
      rw [e, List.getElem?_append_right (by omega), hl]; simp

/-- What Chain hands back: nil just where nothing leads; else the records, in order. -/
def ChainIs (w : World) (v : Value) (p : Nat → Nat) (o k : Nat) : Prop :=
  (k = 0 ∧ v = .slice none 0 0) ∨ (0 < k ∧ ∃ g cap, v = .slice (some ⟨g, 0, none⟩) k cap ∧ ∀ i, i < k → w.cell? ⟨g, i, none⟩ = some (.pointer (some ⟨p (o + i), 0, none⟩)))
theorem ChainIs.below {w w' : World} {v : Value} {p : Nat → Nat} {o k : Nat} (h : ChainIs w v p o k) (hb : Below w.heap.size w w') : ChainIs w' v p o k := by
  rcases h with h | ⟨hk, g, cap, rfl, hc⟩
  · exact .inl h
  · exact .inr ⟨hk, g, cap, rfl, fun i hi => (hb.cell (cell_lt (hc i hi))).trans (hc i hi)⟩

set_option maxRecDepth 100000 in
set_option maxHeartbeats 2000000 in
/-- Chain, at the n entries from place o of the row at block Eb. -/
theorem chain_any (wa : Option Addr) (wn wc : Nat) (ea : Option Addr) (Eb N o n cp : Nat) (s : Nat → ByteArray) (bad : Nat → Bool) (p : Nat → Nat) (E R : Array Value) (w : World) (hE : w.heap[Eb]? = some (.cells E 42)) (hg : Good s bad p E R N) (hon : o + n ≤ N) (hea : 0 < n → ea = some ⟨Eb, o * 4, none⟩) (hn : n ≤ 70000) :
    Calls Try.prog 8 #[.agg #[.slice wa wn wc, .slice ea n cp]] w fun e w' => ∃ v, e = .returned v ∧ ∃ k, Leads bad o n k ∧ ChainIs w' v p o k ∧ Below w.heap.size w w' := by
  obtain ⟨i0, hi0, hz0, hz1, hz2⟩ := info_parts info37
  have HG : Hid (Good s bad p E R N) := hg
  have HEA : Hid (0 < n → ea = some ⟨Eb, o * 4, none⟩) := hea
  have HE : Hid (w.heap[Eb]? = some (.cells E 42)) := hE
  have hEw := block_lt hE
  clear hg hea hE
  go_enter Try.func8, Try.ntmps8
  go_wp2_with fail
  go_loopw [3, 9] (fun v i wr => ∃ t : Nat, t ≤ n ∧ i = .int .i64 t ∧ Hid (∀ j, j < t → bad (o + j) = false) ∧ wr.ownsRow w.heap.size 37 1 v t (ptrs p o t) ∧ (t = 0 → v = .slice none 0 0) ∧ Below w.heap.size w wr) (fun _ i _ => n - (intOf i).toNat)
  case atStart => exact ⟨0, Nat.zero_le _, rfl, fun j hj => by omega, World.ownsRow_nil _ _ _ _, fun _ => rfl, (Below.refl _ _).alloc (Nat.le_refl _) _⟩
  case round =>
    obtain ⟨t, ht, rfl, hall, hown, hnil, hbel⟩ := hrel
    have HN : Hid _ := hnil
    clear hnil
    have hfin : ∀ (W : World), W.ownsRow w.heap.size 37 1 u3 t (ptrs p o t) → ChainIs W u3 p o t := by
      intro W hW
      by_cases e : t = 0
      · exact .inl ⟨e, HN.out e⟩
      · obtain ⟨g, cap, hv, _, _⟩ := hW.form (by omega)
        refine .inr ⟨by omega, g, cap, hv, fun i hi => ?_⟩
        rw [hv] at hW
        rw [hW.cellAt i (by omega), ptrs_get p o t i hi]
    have HF : Hid (∀ (W : World), W.ownsRow w.heap.size 37 1 u3 t (ptrs p o t) → ChainIs W u3 p o t) := hfin
    clear hfin
    have hsz := hbel.size
    by_cases hlt : t < n
    · obtain rfl := HEA.out (by omega)
      have hEr := (hbel.block Eb hEw).trans HE.out
      obtain ⟨r, ev, a1, a2, a3, a4, b1, b2⟩ := HG.out (o + t) (by omega)
      have y0 : wr.cell? ⟨Eb, o * 4 + t * 4, none⟩ = some (.string (s (o + t))) := by rw [cell_of_row wr Eb _ _ _ (0, 0) hEr, ← Nat.add_mul]; exact a1
      have y1 : wr.cell? ⟨Eb, o * 4 + t * 4 + 1, none⟩ = some (.pointer r) := by rw [cell_of_row wr Eb _ _ _ (0, 0) hEr, ← Nat.add_mul]; exact a2
      have y2 : wr.cell? ⟨Eb, o * 4 + t * 4 + 2, none⟩ = some ev := by rw [cell_of_row wr Eb _ _ _ (0, 0) hEr, ← Nat.add_mul]; exact a3
      have y3 : wr.cell? ⟨Eb, o * 4 + t * 4 + 3, none⟩ = some (.int .u64 0) := by rw [cell_of_row wr Eb _ _ _ (0, 0) hEr, ← Nat.add_mul]; exact a4
      have hEbw := block_lt hEr
      have ht1 : (t : Int) < n := by omega
      clear a1 a2 a3 a4 hEr
      generalize s (o + t) = st at *
      cases hbad : bad (o + t) with
      | true =>
        obtain ⟨x, rfl⟩ := b2 hbad
        have HL : Hid (Leads bad o n t) := ⟨ht, hall.out, fun _ => hbad⟩
        clear b1 b2 hall HG HE
        go_wp2_with fail
        go_ret
        exact ⟨_, rfl, t, HL.out, HF.out _ (hown.alloc _), hbel.alloc hsz _⟩
      | false =>
        obtain ⟨rfl, rfl, _⟩ := b1 hbad
        have HS : Hid (∀ j, j < t + 1 → bad (o + j) = false) := fun j hj => by
          by_cases e : j = t
          · rw [e]; exact hbad
          · exact hall.out j (by omega)
        have hfl : Hid (ptrs p o (t + 1) = ptrs p o t ++ [.pointer (some ⟨p (o + t), 0, none⟩)]) := rfl
        clear b1 b2 hall HF HN
        generalize p (o + t) = pt at *
        go_wp2_with (at_builtin; refine wpList_append_lies _ rfl (.tmp 16) (.tmp 19) 27 rfl w.heap.size 37 i0 _ 1 8 Try.underlying27 hi0 hz0 hz1 hz2 rfl (by omega) u3 t _ rfl ((hown.alloc _).alloc _) ⟨wr.heap.size + 1, 0, none⟩ 1 1 [.pointer (some ⟨pt, 0, none⟩)] rfl (by rfl) (news_at _ _ _ _ (by simp)) (by simp [Value.oneCell']) (by omega) (by unfold maxLen; omega) (by omega) (by simp; omega) (wr.heap.size + 2) (by simp) ?_; intro g cap w3 hown3 hgrow3 hat3 hlt3)
        have hbel3 : Below w.heap.size w w3 := ((hbel.alloc hsz _).alloc (by simp; omega) _).grown hgrow3 (by simp; omega) (fun k hk => (hown.lt k hk).1)
        go_wp2_with fail
        go_roundw
        case rel => exact ⟨t + 1, by omega, by go_num, HS.out, by rw [hfl.out]; exact hown3, fun e => by omega, hbel3⟩
        case measure => simp [intOf]; omega
    · obtain rfl : t = n := by omega
      have HL : Hid (Leads bad o t t) := ⟨ht, hall.out, fun hh => by omega⟩
      go_wp2_with fail
      go_ret
      exact ⟨_, rfl, t, HL.out, HF.out _ hown, hbel⟩
end Go.Proofs.Qxb6609495a.Ch
