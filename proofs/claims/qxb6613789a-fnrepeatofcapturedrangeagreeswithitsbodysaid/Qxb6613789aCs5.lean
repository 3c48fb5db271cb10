import Derived.Test.Qxb6613789aCs4
import Derived.Test.Qxb6613789aLay
import Derived.Shelf.SlicesE.Clone
import Derived.Shelf.SlSortCmp.NoneTotal
namespace Go.Proofs.Qxb6613789a.Cs
open Go.RowKit Go.Shelf Go.Lib Go.Sort

/-- A first character, kept within the characters. -/
def cl (a : Int) : Int := if 0 ≤ a ∧ a ≤ 1114111 then a else 0
theorem cl_ok {r : Int × Int} (h : Ok r) : cl r.1 = r.1 := if_pos ⟨h.1, h.2.1⟩
theorem cl_bounds (a : Int) : 0 ≤ cl a ∧ cl a ≤ 1114111 := by unfold cl; split <;> omega
def encR (x : Int × Int) : List Value := [.int .i32 (cl x.1), .int .i32 x.2]
def cmpR (x y : Int × Int) : Int := cl x.1 - cl y.1
theorem ltR (x y : Int × Int) : ltOf cmpR x y = decide (cl x.1 < cl y.1) := by
  unfold ltOf cmpR
  exact decide_eq_decide.2 (by omega)
theorem swoR : SWO (ltOf cmpR) where
  irrefl x := by rw [ltR]; simp
  trans x y z h1 h2 := by rw [ltR] at *; simp at *; omega
  ntrans x y z h1 h2 := by rw [ltR] at *; simp at *; omega

set_option maxHeartbeats 1000000 in
theorem closure39 (x y : Int × Int) (W : World) :
    Calls Try.prog 39 #[.agg #[.int .i32 (cl x.1), .int .i32 x.2], .agg #[.int .i32 (cl y.1), .int .i32 y.2]] W fun e w' => e = .returned (.int .i64 (cmpR x y)) ∧ ∃ q os', w' = grow (W.drewN q) os' := by
  obtain ⟨a1, a2⟩ := cl_bounds x.1
  obtain ⟨b1, b2⟩ := cl_bounds y.1
  unfold cmpR
  generalize cl x.1 = a at *
  generalize cl y.1 = b at *
  go_enter Try.func39, Try.ntmps39
  go_wp2_with fail
  go_ret
  exact ⟨rfl, 0, _, by rw [alloc_eq_grow, alloc_eq_grow, grow_grow]; rfl⟩

theorem cmpLays39 (blk off size : Nat) (w : World) : CmpLays Try.prog 39 #[] encR 2 cmpR blk off size w :=
  fun _ _ _ _ x y => closure39 x y _

theorem sort_any (g cap : Nat) (rs : List (Int × Int)) (w : World) (hok : ∀ r ∈ rs, Ok r) (hn : rs.length ≤ 1000000) (hg : g < w.heap.size)
    (hc : ∀ j, j < rs.length → (w.cell? ⟨g, j * 2, none⟩ = some (.int .i32 (at' rs j).1) ∧ w.cell? ⟨g, j * 2 + 1, none⟩ = some (.int .i32 (at' rs j).2)) ∧ ∀ i, w.frozen? ⟨g, i, none⟩ = false) :
    Calls Try.prog 38 #[.slice (some ⟨g, 0, none⟩) rs.length cap, .func (.func 39) #[] #[]] w fun e w' => e = .returned (.tuple #[]) ∧ ∃ ds, ds.Perm rs ∧ Sorted ds ∧ RowAt w' (some ⟨g, 0, none⟩) ds ∧ RowKit.Below g w w' := by
  have hsz : rs.toArray.size = rs.length := by simp
  have eg : ∀ args w, (callFunc 39 args).run Try.prog w = .ok (.enter 39 args) w := enters_of Try.func39 (by kernel_rfl) rfl
  have hH : HoldsK encR 2 w g 0 rs.toArray := by
    intro t ht
    rw [size_flatK, hsz] at ht
    have hj : t / 2 < rs.length := by omega
    obtain ⟨⟨k1, k2⟩, k3⟩ := hc (t / 2) hj
    have e : rs.toArray[t / 2]! = at' rs (t / 2) := by rw [at_get hj, getElem!_pos rs.toArray (t / 2) (by simpa using hj)]; simp
    have o : Ok (at' rs (t / 2)) := by rw [at_get hj]; exact hok _ (List.getElem_mem hj)
    rw [get_flatK _ _ _ _ (by rw [hsz]; exact ht), e, Nat.zero_add]
    refine ⟨?_, k3 t⟩
    rcases Nat.mod_two_eq_zero_or_one t with h | h
    · rw [h]
      show w.cell? ⟨g, t, none⟩ = some (.int .i32 (cl (at' rs (t / 2)).1))
      rw [cl_ok o, ← k1, show t / 2 * 2 = t by omega]
    · rw [h]
      show w.cell? ⟨g, t, none⟩ = some (.int .i32 (at' rs (t / 2)).2)
      rw [← k2, show t / 2 * 2 + 1 = t by omega]
  have hcon := AnyQ.slices_SortFunc sortR 2 Try.isAgg27 Try.sizeOf27 encR (fun _ => rfl) (fun x v hv => by simp [encR] at hv; rcases hv with rfl | rfl <;> rfl) cmpR swoR 39 #[] g 0 cap rs.toArray w eg (cmpLays39 g 0 _ w) hH hg (by rw [hsz]; omega)
  rw [hsz] at hcon
  change Calls Try.prog 38 _ _ _ at hcon
  refine hcon.mono ?_
  rintro e w' ⟨rfl, d', q, os, ⟨ps, _, pp⟩, hs, rfl⟩
  rw [hsz] at ps
  have hperm : d'.toList.Perm rs := by
    have : d'.extract 0 rs.length = d' := by rw [← ps]; simp
    rw [this] at pp
    simpa using pp
  have hok' : ∀ r ∈ d'.toList, Ok r := fun r hr => hok r (hperm.mem_iff.1 hr)
  have hget : ∀ i (hi : i < d'.toList.length), d'[i]! = d'.toList[i] := fun i hi => by rw [getElem!_pos d' i (by simpa using hi)]; simp
  have hl : d'.toList.length = rs.length := by simpa using ps
  refine ⟨rfl, d'.toList, hperm, ?_, .inr ⟨g, rfl, fun j hj => ?_⟩, ?_⟩
  · refine List.pairwise_iff_getElem.2 fun i j hi hj hij => ?_
    have := hs i j (Nat.zero_le _) hij (by omega)
    rw [ltR, hget i hi, hget j hj, cl_ok (hok' _ (List.getElem_mem hi)), cl_ok (hok' _ (List.getElem_mem hj))] at this
    simpa using this
  · have hK := holdsK_sortWorldK_c encR 2 w g 0 rs.toArray d' q os hH hg (by rw [hsz]; exact ps)
    have hj' : j < d'.size := by simpa using hj
    have c0 := (hK.cell hj' (show 0 < 2 by omega)).1
    have c1 := (hK.cell hj' (show 1 < 2 by omega)).1
    rw [hget j hj, Nat.zero_add] at c0 c1
    have o := hok' _ (List.getElem_mem hj)
    rw [at_get hj]
    refine ⟨c0.trans ?_, c1.trans rfl⟩
    show some (Value.int .i32 (cl _)) = _
    rw [cl_ok o]
  · refine ⟨rfl, rfl, rfl, size_sortWorldK_c _ _ _ _ _ _ _ _, fun k hk => ?_⟩
    show (w.heap.modify g _ ++ os)[k]? = w.heap[k]?
    rw [Array.getElem?_append_left (by simp; omega), Array.getElem?_modify, if_neg (by omega)]

/-- WHAT newSet LEAVES: a charSet of the ranges, merged. -/
def Made (w : World) (rs : List (Int × Int)) (e : Ending) (w' : World) : Prop := ∃ S ds ar cap x0 x1, e = .returned (.pointer (some ⟨S, 0, none⟩)) ∧ w.heap.size ≤ S ∧ SetAt w' S (mergeK ds ds.length) ar cap x0 x1 ∧ ds.Perm rs ∧ Sorted ds ∧ RowKit.Below w.heap.size w w'

theorem own_frozen {w : World} {base g n cap : Nat} {xs : List Value} (h : w.ownsRow base 27 2 (.slice (some ⟨g, 0, none⟩) n cap) n xs) : ∀ i, w.frozen? ⟨g, i, none⟩ = false := fun i => h.frozenAt i
theorem flat_one' (rs : List (Int × Int)) : ∀ u ∈ flat rs, u.oneCell' = true := by
  intro u hu
  simp only [flat, List.mem_flatMap] at hu
  obtain ⟨r, _, h⟩ := hu
  simp at h
  rcases h with rfl | rfl <;> rfl

theorem newSet_row (base g cap : Nat) (rs : List (Int × Int)) (w : World) (hown : w.ownsRow base 27 2 (.slice (some ⟨g, 0, none⟩) rs.length cap) rs.length (flat rs)) (hok : ∀ r ∈ rs, Ok r) (hn : rs.length ≤ 1000000) :
    Calls Try.prog 31 #[.slice (some ⟨g, 0, none⟩) rs.length cap] w fun e w' => Made w rs e w' := by
  obtain ⟨i0, hi0, hz0, hz1, hz2⟩ := info_parts info27
  refine newSet_of _ rs w hn hok ?_
  have hcl := AnyE.slices_Clone cloneR i0 _ 2 8 hi0 hz0 hz1 hz2 rfl (by decide) Try.sizeOf27 g 0 rs.length cap (flat rs) w (flat_length rs) (by unfold maxLen; omega) (by omega)
    (fun j u hj => by
      have hlt : j < rs.length * 2 := by rw [← flat_length]; exact (List.getElem?_eq_some_iff.1 hj).1
      rw [Nat.zero_add, hown.cellAt j hlt]; exact hj) (flat_one' rs)
  change Calls Try.prog 37 _ _ _ at hcl
  refine hcl.mono ?_
  rintro e w1 ⟨v', rfl, h1, _, hb1⟩
  change w1.ownsRow w.heap.size 27 2 v' rs.length (flat rs) at h1
  by_cases h0 : rs = []
  · subst h0
    obtain ⟨ao, cp, rfl⟩ := own_none h1
    refine ⟨ao, cp, rfl, ?_⟩
    have hso := AnyF.slices_SortFunc_none sortR ao cp (.func (.func 39) #[] #[]) w1
    change Calls Try.prog 38 _ _ _ at hso
    refine hso.mono ?_
    rintro e w2 ⟨rfl, rfl⟩
    exact ⟨rfl, [], .nil, List.Pairwise.nil, .inl rfl, hb1⟩
  · obtain ⟨g', cp, rfl, hg1, hg2⟩ := h1.form (by rcases rs with _ | _ <;> simp_all)
    refine ⟨_, cp, rfl, ?_⟩
    refine (sort_any g' cp rs w1 hok hn hg2 (fun j hj => ⟨own_cells h1 j hj, own_frozen h1⟩)).mono ?_
    rintro e w2 ⟨rfl, ds, hp, hs, hr, hb⟩
    exact ⟨rfl, ds, hp, hs, hr, hb1.trans (hb.mono hg1)⟩

theorem newSet_nil (cap : Nat) (w : World) : Calls Try.prog 31 #[.slice none 0 cap] w fun e w' => Made w [] e w' := by
  refine newSet_of _ [] w (by simp) (by simp) ?_
  have hcl := AnyE.slices_Clone_nil cloneR 0 cap w
  change Calls Try.prog 37 _ _ _ at hcl
  refine hcl.mono ?_
  rintro e w1 ⟨rfl, rfl⟩
  refine ⟨none, 0, rfl, ?_⟩
  have hso := AnyF.slices_SortFunc_none sortR none 0 (.func (.func 39) #[] #[]) w1
  change Calls Try.prog 38 _ _ _ at hso
  refine hso.mono ?_
  rintro e w2 ⟨rfl, rfl⟩
  exact ⟨rfl, [], .nil, List.Pairwise.nil, .inl rfl, RowKit.Below.refl _ _⟩
end Go.Proofs.Qxb6613789a.Cs
