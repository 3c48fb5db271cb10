import Derived.Test.Qxb6613789aRp7a
namespace Go.Proofs.Qxb6613789a.Rp
open Go.RowKit
attribute [local go_sem ↓] Go.wp_at_zero Go.wp_at_succ
attribute [local go_sem] ptr_none ptr_same

set_option maxRecDepth 100000 in
set_option maxHeartbeats 4000000 in
theorem law_eq (a : Option Addr) (n c : Nat) (f : Nat → Int) (loops lo  mn mx : Int) (lz : Bool) (w : World) (hops : Ops w a n f) (hn : n ≤ 65536) (h0 : 0 ≤ lo) (h1 : lo ≤ 1114111) :
    Calls Try.prog 4 #[.slice a n c, .int .i64 loops, .int .i32 lo, .int .i32 lo, .int .i64 mn, .int .i64 mx, .bool lz] w fun e w' => e = .returned (.bool true) ∧ Below w.heap.size w w' := by
  have hn1 : ¬ (65536 : Int) < n := by omega
  have t1 : ¬ lo < 0 := by omega
  have t2 : ¬ 1114111 < lo := by omega
  have t3 : ¬ lo < 0 := by omega
  have t4 : ¬ 1114111 < lo := by omega
  go_enter Try.func4, Try.ntmps4
  go_wp2_with fail
  refine (bytes20_any a n c loops lo lo mn mx lz w).mono ?_
  rintro e w' ⟨⟨b, rfl⟩, rfl⟩
  cases b
  · go_wp2_with fail
    go_ret
    exact ⟨rfl, Below.refl _ _⟩
  go_wp2_with fail
  refine (Cs.mkRange_any lo lo w).mono ?_
  rintro e w1 ⟨rfl, rfl⟩
  go_wp2_with fail
  refine (set_one lo lo (.cells #[.int .i32 lo, .int .i32 lo] 27) w h0 h1 (by omega) (by omega)).mono ?_
  rintro e w2 ⟨S, rfl, hS2, hb2⟩
  go_wp2_with fail
  refine (charsNode_any S w2).mono ?_
  rintro e w3 ⟨rfl, rfl⟩
  -- the first compiler
  have hN3 : CharsAt (w2.alloc (.cells #[.int .u8 1, .pointer (some ⟨S, 0, none⟩), .slice none 0 0, .int .i64 0, .int .i64 0, .bool false, .int .i64 0, .int .u8 0, .bool false, .bool false, .bool false] 65)) w2.heap.size S := heap_alloc_new _ _
  have hS3 := hS2.alloc (.cells #[.int .u8 1, .pointer (some ⟨S, 0, none⟩), .slice none 0 0, .int .i64 0, .int .i64 0, .bool false, .int .i64 0, .int .u8 0, .bool false, .bool false, .bool false] 65)
  have hb3 := hb2.alloc hb2.size (.cells #[.int .u8 1, .pointer (some ⟨S, 0, none⟩), .slice none 0 0, .int .i64 0, .int .i64 0, .bool false, .int .i64 0, .int .u8 0, .bool false, .bool false, .bool false] 65)
  generalize w2.alloc (.cells #[.int .u8 1, .pointer (some ⟨S, 0, none⟩), .slice none 0 0, .int .i64 0, .int .i64 0, .bool false, .int .i64 0, .int .u8 0, .bool false, .bool false, .bool false] 65) = w3 at *
  generalize w2.heap.size = N at *
  clear hS2 hb2
  have hbd := build_any a n c f w3 (hops.below hb3) hn
  go_wp2_with fail
  refine hbd.mono ?_
  clear hbd
  rintro e w4 ⟨v, rfl, hown4, hb4⟩
  rw [opsI_length] at hown4
  obtain ⟨ao, cp, rfl⟩ := own_slice hown4
  go_wp2_with fail
  refine (newComp_any ao n cp loops w4).mono ?_
  rintro e w5 ⟨rfl, rfl⟩
  have hc5 : Comp (w4.alloc (.cells #[.slice ao n cp, .int .i64 loops] 67)) w4.heap.size w3.heap.size (.slice ao n cp) (opsI f n) loops := ⟨heap_alloc_new _ _, by rw [opsI_length]; exact hown4.alloc _⟩
  have hb5 : Below w3.heap.size w3 (w4.alloc (.cells #[.slice ao n cp, .int .i64 loops] 67)) := hb4.alloc hb4.size _
  have hC5 := hb4.size
  clear hown4 hb4
  generalize w4.alloc (.cells #[.slice ao n cp, .int .i64 loops] 67) = w5 at *
  generalize w4.heap.size = C at *
  generalize Value.slice ao n cp = v at *
  have hlen : ∀ i : In, (opsI f n ++ [i]).length = n + 1 := fun i => by simp [opsI_length]
  have hnd := znode_of C N w5 _ (node_chars N S lo lo (opsI f n) C w3.heap.size w3.heap.size v loops w5 ((hb5.block N (block_lt hN3)).trans hN3) (hS3.below hb5) hc5 (Nat.le_refl _) hC5 hb5.size (by rw [opsI_length]; omega))
  clear hc5
  go_wp2_with fail
  refine hnd.mono ?_
  clear hnd
  rintro e w6 ⟨rfl, ⟨v6, hc6⟩, _, hb6⟩
  rw [charI_eq] at hc6
  have hb6' := hb5.trans hb6
  clear hb6 hb5
  have hpl := progLen_any C _ v6 _ loops w6 hc6
  have hvw := view_is C _ v6 _ loops n _ (opsI_last f n _ []) (by rw [hlen]; omega) w6 hc6
  rw [hlen] at hpl
  clear hc6
  go_wp2_with fail
  refine hpl.mono ?_
  clear hpl
  rintro e w' ⟨rfl, rfl⟩
  go_wp2_with fail
  refine hvw.mono ?_
  clear hvw
  rintro e w7 ⟨rfl, o1, o2, rfl⟩
  have hb7 := (hb6'.alloc hb6'.size o1).alloc (by have := hb6'.size; simp; omega) o2
  clear hb6'
  generalize (w6.alloc o1).alloc o2 = w7 at *
  have hlk : Below w3.heap.size w3 (w7.alloc (.cells #[.int .u8 0, .int .i64 0, .int .i64 0, .int .i64 0, .pointer none, .int .i32 lo, .int .i64 0, .int .i64 0, .bool false, .int .u8 0, .bool false, .bool false, .bool false, .bool false, .int .i64 0, .int .i32 0] 42)) := hb7.alloc hb7.size _
  have hV : (w7.alloc (.cells #[.int .u8 0, .int .i64 0, .int .i64 0, .int .i64 0, .pointer none, .int .i32 lo, .int .i64 0, .int .i64 0, .bool false, .int .u8 0, .bool false, .bool false, .bool false, .bool false, .int .i64 0, .int .i32 0] 42)).heap[w7.heap.size]? = some (.cells #[.int .u8 0, .int .i64 0, .int .i64 0, .int .i64 0, .pointer none, .int .i32 lo, .int .i64 0, .int .i64 0, .bool false, .int .u8 0, .bool false, .bool false, .bool false, .bool false, .int .i64 0, .int .i32 0] 42) := heap_alloc_new _ _
  have hbd := build_any a n c f (w7.alloc (.cells #[.int .u8 0, .int .i64 0, .int .i64 0, .int .i64 0, .pointer none, .int .i32 lo, .int .i64 0, .int .i64 0, .bool false, .int .u8 0, .bool false, .bool false, .bool false, .bool false, .int .i64 0, .int .i32 0] 42)) (hops.below (hb3.trans (hlk.mono hb3.size))) hn
  go_wp2_with fail
  generalize w7.alloc (.cells #[.int .u8 0, .int .i64 0, .int .i64 0, .int .i64 0, .pointer none, .int .i32 lo, .int .i64 0, .int .i64 0, .bool false, .int .u8 0, .bool false, .bool false, .bool false, .bool false, .int .i64 0, .int .i32 0] 42) = w8 at *
  have hVge : w.heap.size ≤ w7.heap.size := by have := hb3.size; have := hb7.size; omega
  clear hb7
  generalize w7.heap.size = V at *
  refine hbd.mono ?_
  clear hbd
  have hbw8 : Below w.heap.size w w8 := hb3.trans (hlk.mono hb3.size)
  have hN8 : CharsAt w8 N S := (hlk.block N (block_lt hN3)).trans hN3
  have hS8 := hS3.below hlk
  clear hlk hS3 hN3 hb3 hC5
  rintro e w9 ⟨u, rfl, hown9, hb9⟩
  rw [opsI_length] at hown9
  obtain ⟨ao2, cp2, rfl⟩ := own_slice hown9
  go_wp2_with fail
  refine (newComp_any ao2 n cp2 loops w9).mono ?_
  rintro e w10 ⟨rfl, rfl⟩
  have hc10 : Comp (w9.alloc (.cells #[.slice ao2 n cp2, .int .i64 loops] 67)) w9.heap.size w8.heap.size (.slice ao2 n cp2) (opsI f n) loops := ⟨heap_alloc_new _ _, by rw [opsI_length]; exact hown9.alloc _⟩
  have hb10 : Below w8.heap.size w8 (w9.alloc (.cells #[.slice ao2 n cp2, .int .i64 loops] 67)) := hb9.alloc hb9.size _
  have hD := hb9.size
  clear hown9 hb9
  generalize w9.alloc (.cells #[.slice ao2 n cp2, .int .i64 loops] 67) = w10 at *
  generalize w9.heap.size = D at *
  generalize Value.slice ao2 n cp2 = v at *
  go_wp2_with fail
  refine (repNode_any N mn mx lz w10).mono ?_
  rintro e w11 ⟨rfl, hR, o3, o4, rfl⟩
  have hb11 := (hb10.alloc hb10.size o3).alloc (by have := hb10.size; simp; omega) o4
  have hc11 := (hc10.alloc o3).alloc o4
  clear hb10 hc10
  generalize (w10.alloc o3).alloc o4 = w11 at *
  generalize w10.heap.size + 1 = R at *
  by_cases hmx : mx = 0
  · subst hmx
    have hrp := zrepeat_of D R w11 _ (repeat_zero R N D mn lz w11 hR)
    clear hR hN8 hS8
    go_wp2_with fail
    refine hrp.mono ?_
    clear hrp
    rintro e w12 ⟨rfl, rfl⟩
    go_wp2_with fail
    refine (loops_any D _ v _ loops w11 hc11).mono ?_
    rintro e w12 ⟨rfl, rfl⟩
    have hpl := progLen_any D _ v _ loops w11 hc11
    rw [opsI_length] at hpl
    go_wp2_with fail
    refine hpl.mono ?_
    clear hpl
    rintro e w12 ⟨rfl, rfl⟩
    go_wp2_with fail
    go_loopw [26] (fun i wr => ∃ t : Nat, t ≤ n ∧ i = .int .i64 t ∧ Comp wr D w8.heap.size v (opsI f n) loops ∧ Below w8.heap.size w8 wr) (fun i _ => n - (intOf i).toNat)
    case atStart => exact ⟨0, Nat.zero_le _, rfl, hc11, hb11⟩
    case round =>
      obtain ⟨t, ht, rfl, hcr, hbr⟩ := hrel
      by_cases hlt : t < n
      · obtain ⟨b, o, rfl, hcell⟩ : ∃ b o, a = some ⟨b, o, none⟩ ∧ ∀ j, j < n → w.cell? ⟨b, o + j, none⟩ = some (.int .u8 (f j)) := by
          rcases hops with h | h
          · omega
          · exact h
        have hbw := hbw8.trans (hbr.mono hbw8.size)
        have z1 : wr.cell? ⟨b, o + t, none⟩ = some (.int .u8 (f t)) := (hbw.cell (cell_lt (hcell t hlt))).trans (hcell t hlt)
        have hbs : b < wr.heap.size := cell_lt z1
        have hget : ((opsI f n))[t]? = some { op := f t } := by have := opsI_get f n t hlt []; rwa [List.append_nil] at this
        have hvw := fun (W : World) (hW : Comp W D w8.heap.size v (opsI f n) loops) => view_is D _ _ _ loops t _ hget (by rw [opsI_length]; omega) W hW
        clear hcell hget hops
        generalize f t = x at *
        have ht1 : (t : Int) < n := by omega
        have hsz := hbr.size
        go_wp2_with fail
        go_region_held3 (fun w' => w'.cell? ⟨b, o + t, none⟩ = some (.int .u8 x)) (first | go_keep | trace_state) (first | (go_at_call 17; refine (hvw wr.drew ⟨hcr.blk, hcr.own⟩).mono ?_; rintro e w' ⟨rfl, o1, o2, rfl⟩))
        go_wp2_with fail
        go_roundw
        case rel => exact ⟨t + 1, by omega, by go_num, ⟨((hcr.alloc o1).alloc o2).blk, ((hcr.alloc o1).alloc o2).own⟩, ((hbr.alloc hsz o1).alloc (by simp; omega) o2).drew⟩
        case measure => simp [intOf]; omega
      · obtain rfl : t = n := by omega
        go_wp2_with fail
        go_ret
        exact ⟨rfl, hbw8.trans (hbr.mono hbw8.size)⟩
  · have hrp := zrepeat_of D R w11 _ (repeat_chars R N S lo lo mn mx lz (opsI f n) D w8.heap.size w8.heap.size v loops w11 hR ((hb11.block N (block_lt hN8)).trans hN8) (hS8.below hb11) hc11 (Nat.le_refl _) hD hb11.size (by rw [opsI_length]; omega) hmx)
    rw [charI_eq] at hrp
    clear hR hN8 hS8 hc11
    go_wp2_with fail
    refine hrp.mono ?_
    clear hrp
    rintro e w12 ⟨rfl, ⟨v12, hc12⟩, _, hb12⟩
    have hb12' := hb11.trans hb12
    clear hb11 hb12
    go_wp2_with fail
    refine (loops_any D _ v12 _ loops w12 hc12).mono ?_
    rintro e w' ⟨rfl, rfl⟩
    have hpl := progLen_any D _ v12 _ loops w12 hc12
    rw [hlen] at hpl
    go_wp2_with fail
    refine hpl.mono ?_
    clear hpl
    rintro e w' ⟨rfl, rfl⟩
    go_wp2_with fail
    go_loopw [26] (fun i wr => ∃ t : Nat, t ≤ n ∧ i = .int .i64 t ∧ Comp wr D w8.heap.size v12 (opsI f n ++ [{ op := 1, r := lo, min := mn, max := mx, lazy := lz }]) loops ∧ Below w8.heap.size w8 wr) (fun i _ => n - (intOf i).toNat)
    case atStart => exact ⟨0, Nat.zero_le _, rfl, hc12, hb12'⟩
    case round =>
      obtain ⟨t, ht, rfl, hcr, hbr⟩ := hrel
      by_cases hlt : t < n
      · obtain ⟨b, o, rfl, hcell⟩ : ∃ b o, a = some ⟨b, o, none⟩ ∧ ∀ j, j < n → w.cell? ⟨b, o + j, none⟩ = some (.int .u8 (f j)) := by
          rcases hops with h | h
          · omega
          · exact h
        have hbw := hbw8.trans (hbr.mono hbw8.size)
        have z1 : wr.cell? ⟨b, o + t, none⟩ = some (.int .u8 (f t)) := (hbw.cell (cell_lt (hcell t hlt))).trans (hcell t hlt)
        have hbs : b < wr.heap.size := cell_lt z1
        have hget : ((opsI f n ++ [{ op := 1, r := lo, min := mn, max := mx, lazy := lz }]))[t]? = some { op := f t } := opsI_get f n t hlt _
        have hvw := fun (W : World) (hW : Comp W D w8.heap.size v12 (opsI f n ++ [{ op := 1, r := lo, min := mn, max := mx, lazy := lz }]) loops) => view_is D _ _ _ loops t _ hget (by rw [hlen]; omega) W hW
        clear hcell hget hops
        generalize f t = x at *
        have ht1 : (t : Int) < n := by omega
        have hsz := hbr.size
        go_wp2_with fail
        go_region_held3 (fun w' => w'.cell? ⟨b, o + t, none⟩ = some (.int .u8 x)) (first | go_keep | trace_state) (first | (go_at_call 17; refine (hvw wr.drew ⟨hcr.blk, hcr.own⟩).mono ?_; rintro e w' ⟨rfl, o1, o2, rfl⟩))
        go_wp2_with fail
        go_roundw
        case rel => exact ⟨t + 1, by omega, by go_num, ⟨((hcr.alloc o1).alloc o2).blk, ((hcr.alloc o1).alloc o2).own⟩, ((hbr.alloc hsz o1).alloc (by simp; omega) o2).drew⟩
        case measure => simp [intOf]; omega
      · obtain rfl : t = n := by omega
        have hVr := (hbr.block V (block_lt hV)).trans hV
        have hVs := block_lt hVr
        have q0 : wr.cell? ⟨V, 0, none⟩ = some (.int .u8 0) := (cell_of_row wr V 0 _ _ (0, 0) hVr).trans rfl
        have q6 : wr.cell? ⟨V, 6, none⟩ = some (.int .i64 0) := (cell_of_row wr V 6 _ _ (0, 0) hVr).trans rfl
        have q7 : wr.cell? ⟨V, 7, none⟩ = some (.int .i64 0) := (cell_of_row wr V 7 _ _ (0, 0) hVr).trans rfl
        have q8 : wr.cell? ⟨V, 8, none⟩ = some (.bool false) := (cell_of_row wr V 8 _ _ (0, 0) hVr).trans rfl
        have g0 : wr.frozen? ⟨V, 0, none⟩ = false := frozen_of_row wr V 0 _ _ hVr
        have g6 : wr.frozen? ⟨V, 6, none⟩ = false := frozen_of_row wr V 6 _ _ hVr
        have g7 : wr.frozen? ⟨V, 7, none⟩ = false := frozen_of_row wr V 7 _ _ hVr
        have g8 : wr.frozen? ⟨V, 8, none⟩ = false := frozen_of_row wr V 8 _ _ hVr
        go_wp2_with fail
        clear q0 q6 q7 q8 g0 g6 g7 g8
        have hne : D ≠ V := by rintro rfl; have := hcr.blk; rw [hVr] at this; simp at this
        have hno : v12.ownBlock ≠ some V := fun e => by
          obtain ⟨cur, hc⟩ := own_tag hcr.own e
          rw [hVr] at hc
          simp at hc
        have hc13 := (((hcr.setOther (a := ⟨V, 0, none⟩) hne hno (.int .u8 1)).setOther (a := ⟨V, 6, none⟩) hne hno (.int .i64 mn)).setOther (a := ⟨V, 7, none⟩) hne hno (.int .i64 mx)).setOther (a := ⟨V, 8, none⟩) hne hno (.bool lz)
        have hV13 := heap_setCell_same _ V 8 _ _ (.bool lz) (heap_setCell_same _ V 7 _ _ (.int .i64 mx) (heap_setCell_same _ V 6 _ _ (.int .i64 mn) (heap_setCell_same wr V 0 _ _ (.int .u8 1) hVr)))
        have hb13 := ((((hbw8.trans (hbr.mono hbw8.size)).setCell (p := ⟨V, 0, none⟩) hVge (.int .u8 1)).setCell (p := ⟨V, 6, none⟩) hVge (.int .i64 mn)).setCell (p := ⟨V, 7, none⟩) hVge (.int .i64 mx)).setCell (p := ⟨V, 8, none⟩) hVge (.bool lz)
        have q0 : ((((wr.setCell ⟨V, 0, none⟩ (.int .u8 1)).setCell ⟨V, 6, none⟩ (.int .i64 mn)).setCell ⟨V, 7, none⟩ (.int .i64 mx)).setCell ⟨V, 8, none⟩ (.bool lz)).cell? ⟨V, 0, none⟩ = some (.int .u8 1) := (cell_of_row _ V 0 _ _ (0, 0) hV13).trans rfl
        have q1 : ((((wr.setCell ⟨V, 0, none⟩ (.int .u8 1)).setCell ⟨V, 6, none⟩ (.int .i64 mn)).setCell ⟨V, 7, none⟩ (.int .i64 mx)).setCell ⟨V, 8, none⟩ (.bool lz)).cell? ⟨V, 1, none⟩ = some (.int .i64 0) := (cell_of_row _ V 1 _ _ (0, 0) hV13).trans rfl
        have q2 : ((((wr.setCell ⟨V, 0, none⟩ (.int .u8 1)).setCell ⟨V, 6, none⟩ (.int .i64 mn)).setCell ⟨V, 7, none⟩ (.int .i64 mx)).setCell ⟨V, 8, none⟩ (.bool lz)).cell? ⟨V, 2, none⟩ = some (.int .i64 0) := (cell_of_row _ V 2 _ _ (0, 0) hV13).trans rfl
        have q3 : ((((wr.setCell ⟨V, 0, none⟩ (.int .u8 1)).setCell ⟨V, 6, none⟩ (.int .i64 mn)).setCell ⟨V, 7, none⟩ (.int .i64 mx)).setCell ⟨V, 8, none⟩ (.bool lz)).cell? ⟨V, 3, none⟩ = some (.int .i64 0) := (cell_of_row _ V 3 _ _ (0, 0) hV13).trans rfl
        have q4 : ((((wr.setCell ⟨V, 0, none⟩ (.int .u8 1)).setCell ⟨V, 6, none⟩ (.int .i64 mn)).setCell ⟨V, 7, none⟩ (.int .i64 mx)).setCell ⟨V, 8, none⟩ (.bool lz)).cell? ⟨V, 4, none⟩ = some (.pointer none) := (cell_of_row _ V 4 _ _ (0, 0) hV13).trans rfl
        have q5 : ((((wr.setCell ⟨V, 0, none⟩ (.int .u8 1)).setCell ⟨V, 6, none⟩ (.int .i64 mn)).setCell ⟨V, 7, none⟩ (.int .i64 mx)).setCell ⟨V, 8, none⟩ (.bool lz)).cell? ⟨V, 5, none⟩ = some (.int .i32 lo) := (cell_of_row _ V 5 _ _ (0, 0) hV13).trans rfl
        have q6 : ((((wr.setCell ⟨V, 0, none⟩ (.int .u8 1)).setCell ⟨V, 6, none⟩ (.int .i64 mn)).setCell ⟨V, 7, none⟩ (.int .i64 mx)).setCell ⟨V, 8, none⟩ (.bool lz)).cell? ⟨V, 6, none⟩ = some (.int .i64 mn) := (cell_of_row _ V 6 _ _ (0, 0) hV13).trans rfl
        have q7 : ((((wr.setCell ⟨V, 0, none⟩ (.int .u8 1)).setCell ⟨V, 6, none⟩ (.int .i64 mn)).setCell ⟨V, 7, none⟩ (.int .i64 mx)).setCell ⟨V, 8, none⟩ (.bool lz)).cell? ⟨V, 7, none⟩ = some (.int .i64 mx) := (cell_of_row _ V 7 _ _ (0, 0) hV13).trans rfl
        have q8 : ((((wr.setCell ⟨V, 0, none⟩ (.int .u8 1)).setCell ⟨V, 6, none⟩ (.int .i64 mn)).setCell ⟨V, 7, none⟩ (.int .i64 mx)).setCell ⟨V, 8, none⟩ (.bool lz)).cell? ⟨V, 8, none⟩ = some (.bool lz) := (cell_of_row _ V 8 _ _ (0, 0) hV13).trans rfl
        have q9 : ((((wr.setCell ⟨V, 0, none⟩ (.int .u8 1)).setCell ⟨V, 6, none⟩ (.int .i64 mn)).setCell ⟨V, 7, none⟩ (.int .i64 mx)).setCell ⟨V, 8, none⟩ (.bool lz)).cell? ⟨V, 9, none⟩ = some (.int .u8 0) := (cell_of_row _ V 9 _ _ (0, 0) hV13).trans rfl
        have q10 : ((((wr.setCell ⟨V, 0, none⟩ (.int .u8 1)).setCell ⟨V, 6, none⟩ (.int .i64 mn)).setCell ⟨V, 7, none⟩ (.int .i64 mx)).setCell ⟨V, 8, none⟩ (.bool lz)).cell? ⟨V, 10, none⟩ = some (.bool false) := (cell_of_row _ V 10 _ _ (0, 0) hV13).trans rfl
        have q11 : ((((wr.setCell ⟨V, 0, none⟩ (.int .u8 1)).setCell ⟨V, 6, none⟩ (.int .i64 mn)).setCell ⟨V, 7, none⟩ (.int .i64 mx)).setCell ⟨V, 8, none⟩ (.bool lz)).cell? ⟨V, 11, none⟩ = some (.bool false) := (cell_of_row _ V 11 _ _ (0, 0) hV13).trans rfl
        have q12 : ((((wr.setCell ⟨V, 0, none⟩ (.int .u8 1)).setCell ⟨V, 6, none⟩ (.int .i64 mn)).setCell ⟨V, 7, none⟩ (.int .i64 mx)).setCell ⟨V, 8, none⟩ (.bool lz)).cell? ⟨V, 12, none⟩ = some (.bool false) := (cell_of_row _ V 12 _ _ (0, 0) hV13).trans rfl
        have q13 : ((((wr.setCell ⟨V, 0, none⟩ (.int .u8 1)).setCell ⟨V, 6, none⟩ (.int .i64 mn)).setCell ⟨V, 7, none⟩ (.int .i64 mx)).setCell ⟨V, 8, none⟩ (.bool lz)).cell? ⟨V, 13, none⟩ = some (.bool false) := (cell_of_row _ V 13 _ _ (0, 0) hV13).trans rfl
        have q14 : ((((wr.setCell ⟨V, 0, none⟩ (.int .u8 1)).setCell ⟨V, 6, none⟩ (.int .i64 mn)).setCell ⟨V, 7, none⟩ (.int .i64 mx)).setCell ⟨V, 8, none⟩ (.bool lz)).cell? ⟨V, 14, none⟩ = some (.int .i64 0) := (cell_of_row _ V 14 _ _ (0, 0) hV13).trans rfl
        have q15 : ((((wr.setCell ⟨V, 0, none⟩ (.int .u8 1)).setCell ⟨V, 6, none⟩ (.int .i64 mn)).setCell ⟨V, 7, none⟩ (.int .i64 mx)).setCell ⟨V, 8, none⟩ (.bool lz)).cell? ⟨V, 15, none⟩ = some (.int .i32 0) := (cell_of_row _ V 15 _ _ (0, 0) hV13).trans rfl
        have hVs := block_lt hV13
        have hsz := hb13.size
        clear hV13 hVr hcr hbr hno hne
        generalize ((((wr.setCell ⟨V, 0, none⟩ (.int .u8 1)).setCell ⟨V, 6, none⟩ (.int .i64 mn)).setCell ⟨V, 7, none⟩ (.int .i64 mx)).setCell ⟨V, 8, none⟩ (.bool lz)) = w13 at *
        have hvw := view_is D _ v12 _ loops t _ (opsI_last f t _ []) (by rw [hlen]; omega) w13.drew ⟨hc13.blk, hc13.own⟩
        clear hc13
        go_region_held3 (fun w' => w'.cell? ⟨V, 0, none⟩ = some (.int .u8 1) ∧ w'.cell? ⟨V, 1, none⟩ = some (.int .i64 0) ∧ w'.cell? ⟨V, 2, none⟩ = some (.int .i64 0) ∧ w'.cell? ⟨V, 3, none⟩ = some (.int .i64 0) ∧ w'.cell? ⟨V, 4, none⟩ = some (.pointer none) ∧ w'.cell? ⟨V, 5, none⟩ = some (.int .i32 lo) ∧ w'.cell? ⟨V, 6, none⟩ = some (.int .i64 mn) ∧ w'.cell? ⟨V, 7, none⟩ = some (.int .i64 mx) ∧ w'.cell? ⟨V, 8, none⟩ = some (.bool lz) ∧ w'.cell? ⟨V, 9, none⟩ = some (.int .u8 0) ∧ w'.cell? ⟨V, 10, none⟩ = some (.bool false) ∧ w'.cell? ⟨V, 11, none⟩ = some (.bool false) ∧ w'.cell? ⟨V, 12, none⟩ = some (.bool false) ∧ w'.cell? ⟨V, 13, none⟩ = some (.bool false) ∧ w'.cell? ⟨V, 14, none⟩ = some (.int .i64 0) ∧ w'.cell? ⟨V, 15, none⟩ = some (.int .i32 0)) (first | go_keep | trace_state) (first | (go_at_call 17; refine hvw.mono ?_; rintro e w' ⟨rfl, o1, o2, rfl⟩))
        go_wp2_with fail
        go_ret
        exact ⟨rfl, ((hb13.alloc hsz o1).alloc (by simp; omega) o2).drew⟩

end Go.Proofs.Qxb6613789a.Rp
