import Derived.Test.Qxb6613789aRd3
namespace Go.Proofs.Qxb6613789a.Rp
open Go.RowKit
attribute [local go_sem ↓] Go.wp_at_zero Go.wp_at_succ
attribute [local go_sem high] view_neq seen_neq

set_option maxRecDepth 100000 in
set_option maxHeartbeats 16000000 in
theorem lawc_neL (a : Option Addr) (n c : Nat) (f : Nat → Int) (loops grp lo hi mn mx : Int) (lz : Bool) (w : World) (hops : Ops w a n f) (hn : n ≤ 65536) (h0 : 0 ≤ lo) (h1 : lo ≤ 1114111) (h2 : 0 ≤ hi) (h3 : hi ≤ 1114111) (he : ¬ lo = hi) (hx : ¬ Small mn mx) :
    Calls Try.prog 3 #[.slice a n c, .int .i64 loops, .int .i64 grp, .int .i32 lo, .int .i32 hi, .int .i64 mn, .int .i64 mx, .bool lz] w fun e w' => e = .returned (.bool true) ∧ Below w.heap.size w w' := by
  have hn1 : ¬ (65536 : Int) < n := by omega
  have t1 : ¬ lo < 0 := by omega
  have t2 : ¬ 1114111 < lo := by omega
  have t3 : ¬ hi < 0 := by omega
  have t4 : ¬ 1114111 < hi := by omega
  go_enter Try.func3, Try.ntmps3
  go_wp2_with fail
  refine (bytes7_any a n c loops grp lo hi mn mx lz w).mono ?_
  rintro e w' ⟨⟨b, rfl⟩, rfl⟩
  cases b
  · go_wp2_with fail
    go_ret
    exact ⟨rfl, Below.refl _ _⟩
  go_wp2_with fail
  refine (Cs.mkRange_any lo hi w).mono ?_
  rintro e w1 ⟨rfl, rfl⟩
  go_wp2_with fail
  refine (set_one lo hi (.cells #[.int .i32 lo, .int .i32 hi] 27) w h0 h1 (by omega) (by omega)).mono ?_
  rintro e w2 ⟨S, rfl, hS2, hb2⟩
  go_wp2_with fail
  refine (charsNode_any S w2).mono ?_
  rintro e w3 ⟨rfl, rfl⟩
  have hN3 : CharsAt (w2.alloc (.cells #[.int .u8 1, .pointer (some ⟨S, 0, none⟩), .slice none 0 0, .int .i64 0, .int .i64 0, .bool false, .int .i64 0, .int .u8 0, .bool false, .bool false, .bool false] 65)) w2.heap.size S := heap_alloc_new _ _
  have hS3 := hS2.alloc (.cells #[.int .u8 1, .pointer (some ⟨S, 0, none⟩), .slice none 0 0, .int .i64 0, .int .i64 0, .bool false, .int .i64 0, .int .u8 0, .bool false, .bool false, .bool false] 65)
  have hb3 := hb2.alloc hb2.size (.cells #[.int .u8 1, .pointer (some ⟨S, 0, none⟩), .slice none 0 0, .int .i64 0, .int .i64 0, .bool false, .int .i64 0, .int .u8 0, .bool false, .bool false, .bool false] 65)
  generalize w2.alloc (.cells #[.int .u8 1, .pointer (some ⟨S, 0, none⟩), .slice none 0 0, .int .i64 0, .int .i64 0, .bool false, .int .i64 0, .int .u8 0, .bool false, .bool false, .bool false] 65) = w3 at *
  generalize w2.heap.size = N at *
  clear hS2 hb2
  go_wp2_with fail
  refine (capNode_any grp N w3).mono ?_
  rintro e w4 ⟨rfl, hK4, o1, o2, rfl⟩
  have hb34 : Below w3.heap.size w3 ((w3.alloc o1).alloc o2) := ((Below.refl _ w3).alloc (Nat.le_refl _) o1).alloc (by simp) o2
  have hN4 : CharsAt ((w3.alloc o1).alloc o2) N S := (hb34.block N (block_lt hN3)).trans hN3
  have hS4 := hS3.below hb34
  have hb4 := hb3.trans (hb34.mono hb3.size)
  clear hb34 hS3 hN3 hb3
  generalize (w3.alloc o1).alloc o2 = w4 at *
  generalize w3.heap.size + 1 = K at *
  -- the first compiler
  have hbd := build_any a n c f w4 (hops.below hb4) hn
  go_wp2_with fail
  refine hbd.mono ?_
  clear hbd
  rintro e w5 ⟨v, rfl, hown5, hb5⟩
  rw [opsI_length] at hown5
  obtain ⟨ao, cp, rfl⟩ := own_slice hown5
  go_wp2_with fail
  refine (newComp_any ao n cp loops w5).mono ?_
  rintro e w6 ⟨rfl, rfl⟩
  have hc6 : Comp (w5.alloc (.cells #[.slice ao n cp, .int .i64 loops] 67)) w5.heap.size w4.heap.size (.slice ao n cp) (opsI f n) loops := ⟨heap_alloc_new _ _, by rw [opsI_length]; exact hown5.alloc _⟩
  have hb6 : Below w4.heap.size w4 (w5.alloc (.cells #[.slice ao n cp, .int .i64 loops] 67)) := hb5.alloc hb5.size _
  have hC6 := hb5.size
  clear hown5 hb5
  generalize w5.alloc (.cells #[.slice ao n cp, .int .i64 loops] 67) = w6 at *
  generalize w5.heap.size = C at *
  generalize Value.slice ao n cp = v at *
  have hK6 : CapAt w6 K N grp := by obtain ⟨M, x1, x2⟩ := hK4; exact ⟨M, (hb6.block K (block_lt x1)).trans x1, (hb6.block M (block_lt x2)).trans x2⟩
  have hnd := znode_of C K w6 _ (node_cap K N S lo hi grp (opsI f n) C w4.heap.size w4.heap.size v loops w6 hK6 ((hb6.block N (block_lt hN4)).trans hN4) (fun W hW => hS4.below (hb6.trans hW)) hc6 (Nat.le_refl _) hC6 hb6.size (by rw [opsI_length]; omega))
  clear hc6 hK6
  go_wp2_with fail
  refine hnd.mono ?_
  clear hnd
  rintro e w7 ⟨rfl, ⟨v7, hc7⟩, _, hb7⟩
  unfold bodyI at hc7
  rw [charI_ne S he] at hc7
  have hb7' := hb6.trans hb7
  clear hb7 hb6 hC6
  have hlen : ∀ i j k : In, (opsI f n ++ [i, j, k]).length = n + 3 := fun i j k => by simp [opsI_length]
  have hpl := progLen_any C _ v7 _ loops w7 hc7
  rw [hlen] at hpl
  go_wp2_with fail
  refine hpl.mono ?_
  clear hpl
  rintro e w' ⟨rfl, rfl⟩
  go_wp2_with fail
  refine (loops_any C _ v7 _ loops w7 hc7).mono ?_
  rintro e w' ⟨rfl, rfl⟩
  have hvw := view_at C _ v7 _ loops n n rfl _ (opsI_last f n _ _) (by rw [hlen]; omega) w7 hc7
  go_wp2_with fail
  refine hvw.mono ?_
  clear hvw
  rintro e w8 ⟨rfl, o1, o2, rfl⟩
  have hc8 := ((hc7.alloc o1).alloc o2).alloc (.cells #[.int .u8 4, .int .i64 0, .int .i64 0, .int .i64 grp, .pointer none, .int .i32 0, .int .i64 0, .int .i64 0, .bool false, .int .u8 0, .bool false, .bool false, .bool false, .bool false, .int .i64 0, .int .i32 0] 42)
  have hb8 := ((hb7'.alloc hb7'.size o1).alloc (by have := hb7'.size; simp; omega) o2).alloc (by have := hb7'.size; simp; omega) (.cells #[.int .u8 4, .int .i64 0, .int .i64 0, .int .i64 grp, .pointer none, .int .i32 0, .int .i64 0, .int .i64 0, .bool false, .int .u8 0, .bool false, .bool false, .bool false, .bool false, .int .i64 0, .int .i32 0] 42)
  have hV0 : (((w7.alloc o1).alloc o2).alloc (.cells #[.int .u8 4, .int .i64 0, .int .i64 0, .int .i64 grp, .pointer none, .int .i32 0, .int .i64 0, .int .i64 0, .bool false, .int .u8 0, .bool false, .bool false, .bool false, .bool false, .int .i64 0, .int .i32 0] 42)).heap[((w7.alloc o1).alloc o2).heap.size]? = some (.cells #[.int .u8 4, .int .i64 0, .int .i64 0, .int .i64 grp, .pointer none, .int .i32 0, .int .i64 0, .int .i64 0, .bool false, .int .u8 0, .bool false, .bool false, .bool false, .bool false, .int .i64 0, .int .i32 0] 42) := heap_alloc_new _ _
  have hg0 : w4.heap.size ≤ ((w7.alloc o1).alloc o2).heap.size := by have := hb7'.size; simp; omega
  clear hc7 hb7'
  generalize (w7.alloc o1).alloc o2 = w8 at *
  have hvw := view_at C _ v7 _ loops (n + 1) ((n : Int) + 1) (by omega) _ (opsI_past f n 1 _) (by rw [hlen]; omega) _ hc8
  go_wp2_with fail
  generalize w8.alloc (.cells #[.int .u8 4, .int .i64 0, .int .i64 0, .int .i64 grp, .pointer none, .int .i32 0, .int .i64 0, .int .i64 0, .bool false, .int .u8 0, .bool false, .bool false, .bool false, .bool false, .int .i64 0, .int .i32 0] 42) = w9 at *
  generalize w8.heap.size = U0 at *
  refine hvw.mono ?_
  clear hvw
  rintro e w10 ⟨rfl, o3, o4, rfl⟩
  have hc10 := ((hc8.alloc o3).alloc o4).alloc (.cells #[.int .u8 0, .int .i64 0, .int .i64 0, .int .i64 0, .pointer (some ⟨S, 0, none⟩), .int .i32 0, .int .i64 0, .int .i64 0, .bool false, .int .u8 0, .bool false, .bool false, .bool false, .bool false, .int .i64 0, .int .i32 0] 42)
  have hb10 := ((hb8.alloc hb8.size o3).alloc (by have := hb8.size; simp; omega) o4).alloc (by have := hb8.size; simp; omega) (.cells #[.int .u8 0, .int .i64 0, .int .i64 0, .int .i64 0, .pointer (some ⟨S, 0, none⟩), .int .i32 0, .int .i64 0, .int .i64 0, .bool false, .int .u8 0, .bool false, .bool false, .bool false, .bool false, .int .i64 0, .int .i32 0] 42)
  have hV0' : (((w9.alloc o3).alloc o4).alloc (.cells #[.int .u8 0, .int .i64 0, .int .i64 0, .int .i64 0, .pointer (some ⟨S, 0, none⟩), .int .i32 0, .int .i64 0, .int .i64 0, .bool false, .int .u8 0, .bool false, .bool false, .bool false, .bool false, .int .i64 0, .int .i32 0] 42)).heap[U0]? = some (.cells #[.int .u8 4, .int .i64 0, .int .i64 0, .int .i64 grp, .pointer none, .int .i32 0, .int .i64 0, .int .i64 0, .bool false, .int .u8 0, .bool false, .bool false, .bool false, .bool false, .int .i64 0, .int .i32 0] 42) := by
    have hx := block_lt hV0
    rw [Below.heap_alloc _ _ _ (by simp; omega), Below.heap_alloc _ _ _ (by simp; omega), Below.heap_alloc _ _ _ hx]
    exact hV0
  have hV1 : (((w9.alloc o3).alloc o4).alloc (.cells #[.int .u8 0, .int .i64 0, .int .i64 0, .int .i64 0, .pointer (some ⟨S, 0, none⟩), .int .i32 0, .int .i64 0, .int .i64 0, .bool false, .int .u8 0, .bool false, .bool false, .bool false, .bool false, .int .i64 0, .int .i32 0] 42)).heap[((w9.alloc o3).alloc o4).heap.size]? = some (.cells #[.int .u8 0, .int .i64 0, .int .i64 0, .int .i64 0, .pointer (some ⟨S, 0, none⟩), .int .i32 0, .int .i64 0, .int .i64 0, .bool false, .int .u8 0, .bool false, .bool false, .bool false, .bool false, .int .i64 0, .int .i32 0] 42) := heap_alloc_new _ _
  have hg1 : w4.heap.size ≤ ((w9.alloc o3).alloc o4).heap.size := by have := hb8.size; simp; omega
  clear hc8 hb8 hV0
  generalize (w9.alloc o3).alloc o4 = w10 at *
  have hvw := view_at C _ v7 _ loops (n + 2) ((n : Int) + 2) (by omega) _ (opsI_past f n 2 _) (by rw [hlen]; omega) _ hc10
  go_wp2_with fail
  generalize w10.alloc (.cells #[.int .u8 0, .int .i64 0, .int .i64 0, .int .i64 0, .pointer (some ⟨S, 0, none⟩), .int .i32 0, .int .i64 0, .int .i64 0, .bool false, .int .u8 0, .bool false, .bool false, .bool false, .bool false, .int .i64 0, .int .i32 0] 42) = w11 at *
  generalize w10.heap.size = U1 at *
  refine hvw.mono ?_
  clear hvw
  rintro e w12 ⟨rfl, o5, o6, rfl⟩
  have hx0 := block_lt hV0'
  have hx1 := block_lt hV1
  have hW0 : ((w11.alloc o5).alloc o6).heap[U0]? = some (.cells #[.int .u8 4, .int .i64 0, .int .i64 0, .int .i64 grp, .pointer none, .int .i32 0, .int .i64 0, .int .i64 0, .bool false, .int .u8 0, .bool false, .bool false, .bool false, .bool false, .int .i64 0, .int .i32 0] 42) := by
    rw [Below.heap_alloc _ _ _ (by simp; omega), Below.heap_alloc _ _ _ hx0]
    exact hV0'
  have hW1 : ((w11.alloc o5).alloc o6).heap[U1]? = some (.cells #[.int .u8 0, .int .i64 0, .int .i64 0, .int .i64 0, .pointer (some ⟨S, 0, none⟩), .int .i32 0, .int .i64 0, .int .i64 0, .bool false, .int .u8 0, .bool false, .bool false, .bool false, .bool false, .int .i64 0, .int .i32 0] 42) := by
    rw [Below.heap_alloc _ _ _ (by simp; omega), Below.heap_alloc _ _ _ hx1]
    exact hV1
  have hb12 := (hb10.alloc hb10.size o5).alloc (by have := hb10.size; simp; omega) o6
  clear hc10 hb10 hV0' hV1 hx0 hx1
  generalize (w11.alloc o5).alloc o6 = w12 at *
  have hx0 := block_lt hW0
  have hx1 := block_lt hW1
  have HX0 : Hid ((w12.alloc (.cells #[.int .u8 5, .int .i64 0, .int .i64 0, .int .i64 grp, .pointer none, .int .i32 0, .int .i64 0, .int .i64 0, .bool false, .int .u8 0, .bool false, .bool false, .bool false, .bool false, .int .i64 0, .int .i32 0] 42)).heap[U0]? = some (.cells #[.int .u8 4, .int .i64 0, .int .i64 0, .int .i64 grp, .pointer none, .int .i32 0, .int .i64 0, .int .i64 0, .bool false, .int .u8 0, .bool false, .bool false, .bool false, .bool false, .int .i64 0, .int .i32 0] 42)) := (Below.heap_alloc _ _ _ hx0).trans hW0
  have HX1 : Hid ((w12.alloc (.cells #[.int .u8 5, .int .i64 0, .int .i64 0, .int .i64 grp, .pointer none, .int .i32 0, .int .i64 0, .int .i64 0, .bool false, .int .u8 0, .bool false, .bool false, .bool false, .bool false, .int .i64 0, .int .i32 0] 42)).heap[U1]? = some (.cells #[.int .u8 0, .int .i64 0, .int .i64 0, .int .i64 0, .pointer (some ⟨S, 0, none⟩), .int .i32 0, .int .i64 0, .int .i64 0, .bool false, .int .u8 0, .bool false, .bool false, .bool false, .bool false, .int .i64 0, .int .i32 0] 42)) := (Below.heap_alloc _ _ _ hx1).trans hW1
  have HX2 : Hid ((w12.alloc (.cells #[.int .u8 5, .int .i64 0, .int .i64 0, .int .i64 grp, .pointer none, .int .i32 0, .int .i64 0, .int .i64 0, .bool false, .int .u8 0, .bool false, .bool false, .bool false, .bool false, .int .i64 0, .int .i32 0] 42)).heap[w12.heap.size]? = some (.cells #[.int .u8 5, .int .i64 0, .int .i64 0, .int .i64 grp, .pointer none, .int .i32 0, .int .i64 0, .int .i64 0, .bool false, .int .u8 0, .bool false, .bool false, .bool false, .bool false, .int .i64 0, .int .i32 0] 42)) := heap_alloc_new _ _
  have HB : Hid (Below w.heap.size w (w12.alloc (.cells #[.int .u8 5, .int .i64 0, .int .i64 0, .int .i64 grp, .pointer none, .int .i32 0, .int .i64 0, .int .i64 0, .bool false, .int .u8 0, .bool false, .bool false, .bool false, .bool false, .int .i64 0, .int .i32 0] 42))) := hb4.trans ((hb12.alloc hb12.size _).mono hb4.size)
  have HB4 : Hid (Below w4.heap.size w4 (w12.alloc (.cells #[.int .u8 5, .int .i64 0, .int .i64 0, .int .i64 grp, .pointer none, .int .i32 0, .int .i64 0, .int .i64 0, .bool false, .int .u8 0, .bool false, .bool false, .bool false, .bool false, .int .i64 0, .int .i32 0] 42))) := hb12.alloc hb12.size _
  clear hW0 hW1 hb12
  focus
    have hbd := build_any a n c f (w12.alloc (.cells #[.int .u8 5, .int .i64 0, .int .i64 0, .int .i64 grp, .pointer none, .int .i32 0, .int .i64 0, .int .i64 0, .bool false, .int .u8 0, .bool false, .bool false, .bool false, .bool false, .int .i64 0, .int .i32 0] 42)) (hops.below HB.out) hn
    go_wp2_with (first | refine wpList_load_row rfl 42 (.tmp 24) rfl U0 rfl 42 _ (0, 0) _ HX0.out Try.underlying42 rfl size42 ?_ | refine wpList_load_row rfl 42 (.tmp 25) rfl U1 rfl 42 _ (0, 0) _ HX1.out Try.underlying42 rfl size42 ?_ | refine wpList_load_row rfl 42 (.tmp 26) rfl w12.heap.size rfl 42 _ (0, 0) _ HX2.out Try.underlying42 rfl size42 ?_)
    generalize w12.alloc (.cells #[.int .u8 5, .int .i64 0, .int .i64 0, .int .i64 grp, .pointer none, .int .i32 0, .int .i64 0, .int .i64 0, .bool false, .int .u8 0, .bool false, .bool false, .bool false, .bool false, .int .i64 0, .int .i32 0] 42) = w13 at *
    generalize w12.heap.size = U2 at *
    focus
      refine hbd.mono ?_
      clear hbd
      have hK13 : CapAt w13 K N grp := by obtain ⟨M, x1, x2⟩ := hK4; exact ⟨M, (HB4.out.block K (block_lt x1)).trans x1, (HB4.out.block M (block_lt x2)).trans x2⟩
      have hN13 : CharsAt w13 N S := (HB4.out.block N (block_lt hN4)).trans hN4
      have hS13 := hS4.below HB4.out
      clear hK4 hN4 hS4 hx0 hx1
      rintro e w14 ⟨u, rfl, hown14, hb14⟩
      rw [opsI_length] at hown14
      obtain ⟨ao2, cp2, rfl⟩ := own_slice hown14
      go_wp2_with fail
      refine (newComp_any ao2 n cp2 loops w14).mono ?_
      rintro e w15 ⟨rfl, rfl⟩
      have hc15 : Comp (w14.alloc (.cells #[.slice ao2 n cp2, .int .i64 loops] 67)) w14.heap.size w13.heap.size (.slice ao2 n cp2) (opsI f n) loops := ⟨heap_alloc_new _ _, by rw [opsI_length]; exact hown14.alloc _⟩
      have hb15 : Below w13.heap.size w13 (w14.alloc (.cells #[.slice ao2 n cp2, .int .i64 loops] 67)) := hb14.alloc hb14.size _
      have hD := hb14.size
      clear hown14 hb14
      generalize w14.alloc (.cells #[.slice ao2 n cp2, .int .i64 loops] 67) = w15 at *
      generalize w14.heap.size = D at *
      generalize Value.slice ao2 n cp2 = v at *
      go_wp2_with fail
      refine (repNode_any K mn mx lz w15).mono ?_
      rintro e w16 ⟨rfl, hR, o1, o2, rfl⟩
      have hb16 := (hb15.alloc hb15.size o1).alloc (by have := hb15.size; simp; omega) o2
      have hc16 := (hc15.alloc o1).alloc o2
      clear hb15 hc15
      generalize (w15.alloc o1).alloc o2 = w16 at *
      generalize w15.heap.size + 1 = Rn at *
      have hK16 : CapAt w16 K N grp := by obtain ⟨M, x1, x2⟩ := hK13; exact ⟨M, (hb16.block K (block_lt x1)).trans x1, (hb16.block M (block_lt x2)).trans x2⟩
      have hN16 : CharsAt w16 N S := (hb16.block N (block_lt hN13)).trans hN13
      have hS16 : ∀ W, Below w13.heap.size w16 W → OneSet W S lo hi := fun W hW => hS13.below (hb16.trans hW)
      have hrp := zrepeat_of D Rn w16 _ (repcap_any Rn K N S lo hi grp mn mx lz (opsI f n) D w13.heap.size w13.heap.size v loops w16 hR hK16 hN16 hS16 hc16 (Nat.le_refl _) hD hb16.size (by rw [opsI_length]; omega))
      rw [opsI_length] at hrp
      clear hR hK16 hN16 hS16 hK13 hN13 hS13 hc16
      go_wp2_with fail
      refine hrp.mono ?_
      clear hrp
      rintro e w17 ⟨rfl, tl, LL, v17, hshape, hc17, hb17'⟩
      have hb17 := hb16.trans hb17'
      clear hb17' hb16
      unfold bodyI at hshape
      rw [charI_ne S he] at hshape
      have hlen2 : (opsI f n ++ tl).length = n + tl.length := by rw [List.length_append, opsI_length]
      have hY0 := (hb17.block U0 (block_lt HX0.out)).trans HX0.out
      have hY1 := (hb17.block U1 (block_lt HX1.out)).trans HX1.out
      have hY2 := (hb17.block U2 (block_lt HX2.out)).trans HX2.out
      have HY : Hid (w17.heap[U0]? = some (.cells #[.int .u8 4, .int .i64 0, .int .i64 0, .int .i64 grp, .pointer none, .int .i32 0, .int .i64 0, .int .i64 0, .bool false, .int .u8 0, .bool false, .bool false, .bool false, .bool false, .int .i64 0, .int .i32 0] 42) ∧ w17.heap[U1]? = some (.cells #[.int .u8 0, .int .i64 0, .int .i64 0, .int .i64 0, .pointer (some ⟨S, 0, none⟩), .int .i32 0, .int .i64 0, .int .i64 0, .bool false, .int .u8 0, .bool false, .bool false, .bool false, .bool false, .int .i64 0, .int .i32 0] 42) ∧ w17.heap[U2]? = some (.cells #[.int .u8 5, .int .i64 0, .int .i64 0, .int .i64 grp, .pointer none, .int .i32 0, .int .i64 0, .int .i64 0, .bool false, .int .u8 0, .bool false, .bool false, .bool false, .bool false, .int .i64 0, .int .i32 0] 42)) := ⟨hY0, hY1, hY2⟩
      clear hY0 hY1 hY2 HX0 HX1 HX2
      rcases hshape with ⟨hm, htl, hL⟩ | ⟨hm1, hm, htl, hL⟩ | ⟨hm1, hm, hz, htl, hL⟩ | ⟨hm1, hm, hz, htl, hL⟩ | ⟨hm, h11, h01, htl, hL⟩
      · exact absurd (Or.inl hm) hx
      · exact absurd (Or.inr (Or.inl ⟨hm1, hm⟩)) hx
      · exact absurd (Or.inr (Or.inr ⟨hm1, hm⟩)) hx
      · exact absurd (Or.inr (Or.inr ⟨hm1, hm⟩)) hx
      · subst hL
        by_cases m1 : mn = 1
        · focus
            subst m1
            have hm2 : ¬ mx = 1 := fun e => h11 ⟨rfl, e⟩
            clear h11 h01
            have htm : tl.length = 7 := by rw [htl]; rfl
            obtain ⟨hY0, hY1, hY2⟩ := HY.out
            have hx0 := block_lt hY0
            have hx1 := block_lt hY1
            have hx2 := block_lt hY2
            have hc18 := hc17.alloc (.cells #[.int .u8 11, .int .i64 0, .int .i64 0, .int .i64 loops, .pointer none, .int .i32 0, .int .i64 0, .int .i64 0, .bool false, .int .u8 0, .bool false, .bool false, .bool false, .bool false, .int .i64 0, .int .i32 0, .int .u8 12, .int .i64 ((n : Int) + 7), .int .i64 0, .int .i64 loops, .pointer none, .int .i32 0, .int .i64 1, .int .i64 mx, .bool lz, .int .u8 0, .bool false, .bool false, .bool false, .bool false, .int .i64 0, .int .i32 0, .int .u8 13, .int .i64 0, .int .i64 0, .int .i64 loops, .pointer none, .int .i32 0, .int .i64 1, .int .i64 mx, .bool false, .int .u8 0, .bool false, .bool false, .bool false, .bool false, .int .i64 0, .int .i32 0, .int .u8 4, .int .i64 0, .int .i64 0, .int .i64 grp, .pointer none, .int .i32 0, .int .i64 0, .int .i64 0, .bool false, .int .u8 0, .bool false, .bool false, .bool false, .bool false, .int .i64 0, .int .i32 0, .int .u8 0, .int .i64 0, .int .i64 0, .int .i64 0, .pointer (some ⟨S, 0, none⟩), .int .i32 0, .int .i64 0, .int .i64 0, .bool false, .int .u8 0, .bool false, .bool false, .bool false, .bool false, .int .i64 0, .int .i32 0, .int .u8 5, .int .i64 0, .int .i64 0, .int .i64 grp, .pointer none, .int .i32 0, .int .i64 0, .int .i64 0, .bool false, .int .u8 0, .bool false, .bool false, .bool false, .bool false, .int .i64 0, .int .i32 0, .int .u8 14, .int .i64 ((n : Int) + 7), .int .i64 ((n : Int) + 1), .int .i64 loops, .pointer none, .int .i32 0, .int .i64 1, .int .i64 0, .bool false, .int .u8 0, .bool false, .bool false, .bool false, .bool false, .int .i64 0, .int .i32 0] 42)
            have hb18 := hb17.alloc hb17.size (.cells #[.int .u8 11, .int .i64 0, .int .i64 0, .int .i64 loops, .pointer none, .int .i32 0, .int .i64 0, .int .i64 0, .bool false, .int .u8 0, .bool false, .bool false, .bool false, .bool false, .int .i64 0, .int .i32 0, .int .u8 12, .int .i64 ((n : Int) + 7), .int .i64 0, .int .i64 loops, .pointer none, .int .i32 0, .int .i64 1, .int .i64 mx, .bool lz, .int .u8 0, .bool false, .bool false, .bool false, .bool false, .int .i64 0, .int .i32 0, .int .u8 13, .int .i64 0, .int .i64 0, .int .i64 loops, .pointer none, .int .i32 0, .int .i64 1, .int .i64 mx, .bool false, .int .u8 0, .bool false, .bool false, .bool false, .bool false, .int .i64 0, .int .i32 0, .int .u8 4, .int .i64 0, .int .i64 0, .int .i64 grp, .pointer none, .int .i32 0, .int .i64 0, .int .i64 0, .bool false, .int .u8 0, .bool false, .bool false, .bool false, .bool false, .int .i64 0, .int .i32 0, .int .u8 0, .int .i64 0, .int .i64 0, .int .i64 0, .pointer (some ⟨S, 0, none⟩), .int .i32 0, .int .i64 0, .int .i64 0, .bool false, .int .u8 0, .bool false, .bool false, .bool false, .bool false, .int .i64 0, .int .i32 0, .int .u8 5, .int .i64 0, .int .i64 0, .int .i64 grp, .pointer none, .int .i32 0, .int .i64 0, .int .i64 0, .bool false, .int .u8 0, .bool false, .bool false, .bool false, .bool false, .int .i64 0, .int .i32 0, .int .u8 14, .int .i64 ((n : Int) + 7), .int .i64 ((n : Int) + 1), .int .i64 loops, .pointer none, .int .i32 0, .int .i64 1, .int .i64 0, .bool false, .int .u8 0, .bool false, .bool false, .bool false, .bool false, .int .i64 0, .int .i32 0] 42)
            have hW18 : (w17.alloc (.cells #[.int .u8 11, .int .i64 0, .int .i64 0, .int .i64 loops, .pointer none, .int .i32 0, .int .i64 0, .int .i64 0, .bool false, .int .u8 0, .bool false, .bool false, .bool false, .bool false, .int .i64 0, .int .i32 0, .int .u8 12, .int .i64 ((n : Int) + 7), .int .i64 0, .int .i64 loops, .pointer none, .int .i32 0, .int .i64 1, .int .i64 mx, .bool lz, .int .u8 0, .bool false, .bool false, .bool false, .bool false, .int .i64 0, .int .i32 0, .int .u8 13, .int .i64 0, .int .i64 0, .int .i64 loops, .pointer none, .int .i32 0, .int .i64 1, .int .i64 mx, .bool false, .int .u8 0, .bool false, .bool false, .bool false, .bool false, .int .i64 0, .int .i32 0, .int .u8 4, .int .i64 0, .int .i64 0, .int .i64 grp, .pointer none, .int .i32 0, .int .i64 0, .int .i64 0, .bool false, .int .u8 0, .bool false, .bool false, .bool false, .bool false, .int .i64 0, .int .i32 0, .int .u8 0, .int .i64 0, .int .i64 0, .int .i64 0, .pointer (some ⟨S, 0, none⟩), .int .i32 0, .int .i64 0, .int .i64 0, .bool false, .int .u8 0, .bool false, .bool false, .bool false, .bool false, .int .i64 0, .int .i32 0, .int .u8 5, .int .i64 0, .int .i64 0, .int .i64 grp, .pointer none, .int .i32 0, .int .i64 0, .int .i64 0, .bool false, .int .u8 0, .bool false, .bool false, .bool false, .bool false, .int .i64 0, .int .i32 0, .int .u8 14, .int .i64 ((n : Int) + 7), .int .i64 ((n : Int) + 1), .int .i64 loops, .pointer none, .int .i32 0, .int .i64 1, .int .i64 0, .bool false, .int .u8 0, .bool false, .bool false, .bool false, .bool false, .int .i64 0, .int .i32 0] 42)).heap[w17.heap.size]? = some (.cells (seenRow tl).toArray 42) := by rw [htl]; exact heap_alloc_new _ _
            have hpl := progLen_any D _ v17 _ (wrap64 (loops + 1)) _ hc18
            have hlp := loops_any D _ v17 _ (wrap64 (loops + 1)) _ hc18
            rw [hlen2, htm] at hpl
            have HY0 : Hid _ := hY0
            have HY1 : Hid _ := hY1
            have HY2 : Hid _ := hY2
            clear hc17 hb17 htl HY hY0 hY1 hY2
            go_wp2_with (first | refine wpList_load_row rfl 42 (.tmp 24) rfl U0 rfl 42 _ (0, 0) _ HY0.out Try.underlying42 rfl size42 ?_ | refine wpList_load_row rfl 42 (.tmp 25) rfl U1 rfl 42 _ (0, 0) _ HY1.out Try.underlying42 rfl size42 ?_ | refine wpList_load_row rfl 42 (.tmp 26) rfl U2 rfl 42 _ (0, 0) _ HY2.out Try.underlying42 rfl size42 ?_)
            generalize w17.alloc (.cells #[.int .u8 11, .int .i64 0, .int .i64 0, .int .i64 loops, .pointer none, .int .i32 0, .int .i64 0, .int .i64 0, .bool false, .int .u8 0, .bool false, .bool false, .bool false, .bool false, .int .i64 0, .int .i32 0, .int .u8 12, .int .i64 ((n : Int) + 7), .int .i64 0, .int .i64 loops, .pointer none, .int .i32 0, .int .i64 1, .int .i64 mx, .bool lz, .int .u8 0, .bool false, .bool false, .bool false, .bool false, .int .i64 0, .int .i32 0, .int .u8 13, .int .i64 0, .int .i64 0, .int .i64 loops, .pointer none, .int .i32 0, .int .i64 1, .int .i64 mx, .bool false, .int .u8 0, .bool false, .bool false, .bool false, .bool false, .int .i64 0, .int .i32 0, .int .u8 4, .int .i64 0, .int .i64 0, .int .i64 grp, .pointer none, .int .i32 0, .int .i64 0, .int .i64 0, .bool false, .int .u8 0, .bool false, .bool false, .bool false, .bool false, .int .i64 0, .int .i32 0, .int .u8 0, .int .i64 0, .int .i64 0, .int .i64 0, .pointer (some ⟨S, 0, none⟩), .int .i32 0, .int .i64 0, .int .i64 0, .bool false, .int .u8 0, .bool false, .bool false, .bool false, .bool false, .int .i64 0, .int .i32 0, .int .u8 5, .int .i64 0, .int .i64 0, .int .i64 grp, .pointer none, .int .i32 0, .int .i64 0, .int .i64 0, .bool false, .int .u8 0, .bool false, .bool false, .bool false, .bool false, .int .i64 0, .int .i32 0, .int .u8 14, .int .i64 ((n : Int) + 7), .int .i64 ((n : Int) + 1), .int .i64 loops, .pointer none, .int .i32 0, .int .i64 1, .int .i64 0, .bool false, .int .u8 0, .bool false, .bool false, .bool false, .bool false, .int .i64 0, .int .i32 0] 42) = w18 at *
            generalize w17.heap.size = Wb at *
            refine hpl.mono ?_
            clear hpl
            rintro e w' ⟨rfl, rfl⟩
            go_wp2_with fail
            refine hlp.mono ?_
            clear hlp
            rintro e w' ⟨rfl, rfl⟩
            go_wp2_with fail
            go_loopw [34] (fun i wr => ∃ t : Nat, t ≤ n ∧ i = .int .i64 t ∧ Comp wr D w13.heap.size v17 (opsI f n ++ tl) (wrap64 (loops + 1)) ∧ Hid (wr.heap[Wb]? = some (.cells (seenRow tl).toArray 42)) ∧ Below w13.heap.size w13 wr) (fun i _ => n - (intOf i).toNat)
            case atStart => exact ⟨0, Nat.zero_le _, rfl, hc18, hW18, hb18⟩
            case round =>
              obtain ⟨t, ht, rfl, hcr, hWr, hbr⟩ := hrel
              have hsz := hbr.size
              by_cases hlt : t < n
              · obtain ⟨b, o, rfl, hcell⟩ : ∃ b o, a = some ⟨b, o, none⟩ ∧ ∀ j, j < n → w.cell? ⟨b, o + j, none⟩ = some (.int .u8 (f j)) := by
                  rcases hops with h | h
                  · omega
                  · exact h
                have hbw := HB.out.trans (hbr.mono HB.out.size)
                have z1 : wr.cell? ⟨b, o + t, none⟩ = some (.int .u8 (f t)) := (hbw.cell (cell_lt (hcell t hlt))).trans (hcell t hlt)
                have hbs : b < wr.heap.size := cell_lt z1
                have hvw := view_at D _ v17 _ (wrap64 (loops + 1)) t t rfl _ (opsI_get f n t hlt tl) (by rw [hlen2]; omega) wr.drew ⟨hcr.blk, hcr.own⟩
                clear hcell hops
                generalize f t = x at *
                have ht1 : (t : Int) < n := by omega
                go_wp2_with fail
                go_region_held3 (fun w' => w'.cell? ⟨b, o + t, none⟩ = some (.int .u8 x)) (first | go_keep | trace_state) (first | (go_at_call 17; refine hvw.mono ?_; rintro e w' ⟨rfl, o1, o2, rfl⟩))
                go_wp2_with fail
                go_roundw
                case rel => exact ⟨t + 1, by omega, by go_num, ⟨((hcr.alloc o1).alloc o2).blk, ((hcr.alloc o1).alloc o2).own⟩, alloc2_heap hWr.out o1 o2, ((hbr.alloc hsz o1).alloc (by simp; omega) o2).drew⟩
                case measure => simp [intOf]; omega
              · obtain rfl : t = n := by omega
                go_wp2_with fail
                go_loopw [35] (fun i wr => ∃ t' : Nat, t' ≤ 7 ∧ i = .int .i64 t' ∧ Comp wr D w13.heap.size v17 (opsI f t ++ tl) (wrap64 (loops + 1)) ∧ Hid (wr.heap[Wb]? = some (.cells (seenRow tl).toArray 42)) ∧ Below w13.heap.size w13 wr) (fun i _ => 7 - (intOf i).toNat)
                case atStart => exact ⟨0, Nat.zero_le _, rfl, hcr, hWr, hbr⟩
                case round =>
                  obtain ⟨t', ht', rfl, hcr, hWr, hbr⟩ := hrel
                  have hsz := hbr.size
                  by_cases hlt2 : t' < 7
                  · obtain ⟨i, hi⟩ : ∃ i, tl[t']? = some i := ⟨_, List.getElem?_eq_getElem (by omega)⟩
                    have hRg : wr.drew.rangeAt Wb (t' * 16) i.seen := (World.rangeAt_drew _ _ _ _).2 (want_range hWr.out t' i hi)
                    have hld := load_seen Wb (t' * 16) i
                    have hvw := view_seen D _ v17 _ (wrap64 (loops + 1)) (t + t') ((t : Int) + t') (by omega) i ((opsI_past f t t' tl).trans hi) (by rw [hlen2]; omega) wr.drew ⟨hcr.blk, hcr.own⟩
                    have hWs := block_lt hWr.out
                    clear hi
                    have ht1 : (t' : Int) < 7 := by omega
                    have ht2 : (t' : Int) ≤ 10 := by omega
                    have hwr : IntKind.i64.wrap ((t : Int) + (t' : Int)) = (t : Int) + (t' : Int) := IntWalk.i64_in _ (by omega)
                    go_wp2_with fail
                    refine wp_region_held_drew (S := fun w' => w'.rangeAt Wb (t' * 16) i.seen) (by kernel_rfl) hRg (fun hHeld => ?_)
                    refine takeM (i := 0) 233 (.tmp 27) (.pointer (some ⟨D, 0, none⟩)) rfl rfl (by kernel_rfl) (by kernel_rfl) (by kernel_rfl) (fun _ _ _ h => h) rfl rfl rfl hHeld ?_
                    simp only [Act.put, List.setIfInBounds_toArray, List.set_cons_zero, List.set_cons_succ]
                    refine takeM (i := 1) 234 (.tmp 17) (.int .i64 t) rfl rfl (by kernel_rfl) (by kernel_rfl) (by kernel_rfl) (fun _ _ _ h => h) rfl rfl rfl hHeld ?_
                    simp only [Act.put, List.setIfInBounds_toArray, List.set_cons_zero, List.set_cons_succ]
                    refine takeM (i := 2) 235 (.tmp 35) (.int .i64 t') rfl rfl (by kernel_rfl) (by kernel_rfl) (by kernel_rfl) (fun _ _ _ h => h) rfl rfl rfl hHeld ?_
                    simp only [Act.put, List.setIfInBounds_toArray, List.set_cons_zero, List.set_cons_succ]
                    refine takeD (i := 3) 236 (.int .i64 ((t : Int) + (t' : Int))) rfl rfl (by kernel_rfl) (by kernel_rfl) (by kernel_rfl) (fun _ _ _ h => h) (Or.inl ⟨by rfl, ?_⟩) hHeld ?_
                    · intro w hSw
                      go_simp
                    simp only [Act.put, List.setIfInBounds_toArray, List.set_cons_zero, List.set_cons_succ]
                    refine takeM (i := 5) 238 (.tmp 29) (.slice (some ⟨Wb, 0, none⟩) 7 7) rfl rfl (by kernel_rfl) (by kernel_rfl) (by kernel_rfl) (fun _ _ _ h => h) rfl rfl rfl hHeld ?_
                    simp only [Act.put, List.setIfInBounds_toArray, List.set_cons_zero, List.set_cons_succ]
                    refine takeM (i := 6) 239 (.tmp 35) (.int .i64 t') rfl rfl (by kernel_rfl) (by kernel_rfl) (by kernel_rfl) (fun _ _ _ h => h) rfl rfl rfl hHeld ?_
                    simp only [Act.put, List.setIfInBounds_toArray, List.set_cons_zero, List.set_cons_succ]
                    refine takeD (i := 7) 240 (.pointer (some ⟨Wb, t' * 16, none⟩)) rfl rfl (by kernel_rfl) (by kernel_rfl) (by kernel_rfl) (fun _ _ _ h => h) (Or.inl ⟨by rfl, ?_⟩) hHeld ?_
                    · intro w hSw
                      go_simp
                    simp only [Act.put, List.setIfInBounds_toArray, List.set_cons_zero, List.set_cons_succ]
                    refine takeD (i := 8) 241 (.agg i.seen.toArray) rfl rfl (by kernel_rfl) (by kernel_rfl) (by kernel_rfl) (fun _ _ _ h => h) (yieldsIf_load_mid (by rfl) 42 (.tmp 240) rfl Wb (t' * 16) rfl i.seen _ (fun _ h => h) Try.underlying42 rfl size42) hHeld ?_
                    simp only [Act.put, List.setIfInBounds_toArray, List.set_cons_zero, List.set_cons_succ]
                    refine wpAnyH_ready (rs := [4]) (by kernel_rfl) (by simp) ?_
                    refine AllReadyH.cons rfl (fun K hK => ?_) AllReadyH.nil
                    go_simp
                    refine hvw.mono ?_
                    rintro e w' ⟨rfl, o1, o2, rfl⟩
                    go_wp2_with fail
                    refine hK.out _ _ (World.rangeAt_alloc (World.rangeAt_alloc hHeld _) _) (fun hHeld => ?_)
                    clear hK K
                    refine takeD (i := 9) 242 (.bool false) rfl rfl (by kernel_rfl) (by kernel_rfl) (by kernel_rfl) (fun _ _ _ h => h) (Or.inl ⟨by rfl, ?_⟩) hHeld ?_
                    · intro w hSw
                      go_simp
                    simp only [Act.put, List.setIfInBounds_toArray, List.set_cons_zero, List.set_cons_succ]
                    refine wpAnyH_done (by kernel_rfl) ?_ _
                    go_wp2_with fail
                    go_roundw
                    case rel => exact ⟨t' + 1, by omega, by go_num, ⟨((hcr.alloc o1).alloc o2).blk, ((hcr.alloc o1).alloc o2).own⟩, (Below.heap_alloc _ _ _ (by simp; omega)).trans ((Below.heap_alloc _ _ _ hWs).trans hWr.out), ((hbr.alloc hsz o1).alloc (by simp; omega) o2).drew⟩
                    case measure => simp [intOf]; omega
                  · obtain rfl : t' = 7 := by omega
                    go_wp2_with fail
                    go_ret
                    exact ⟨rfl, HB.out.trans (hbr.mono HB.out.size)⟩
        · by_cases m0 : mn = 0
          · focus
              subst m0
              have hm2 : ¬ mx = 1 := fun e => h01 ⟨rfl, e⟩
              clear h11 h01
              have htm : tl.length = 7 := by rw [htl]; rfl
              obtain ⟨hY0, hY1, hY2⟩ := HY.out
              have hx0 := block_lt hY0
              have hx1 := block_lt hY1
              have hx2 := block_lt hY2
              have hc18 := hc17.alloc (.cells #[.int .u8 11, .int .i64 0, .int .i64 0, .int .i64 loops, .pointer none, .int .i32 0, .int .i64 0, .int .i64 0, .bool false, .int .u8 0, .bool false, .bool false, .bool false, .bool false, .int .i64 0, .int .i32 0, .int .u8 12, .int .i64 ((n : Int) + 7), .int .i64 0, .int .i64 loops, .pointer none, .int .i32 0, .int .i64 0, .int .i64 mx, .bool lz, .int .u8 0, .bool false, .bool false, .bool false, .bool false, .int .i64 0, .int .i32 0, .int .u8 13, .int .i64 0, .int .i64 0, .int .i64 loops, .pointer none, .int .i32 0, .int .i64 0, .int .i64 mx, .bool false, .int .u8 0, .bool false, .bool false, .bool false, .bool false, .int .i64 0, .int .i32 0, .int .u8 4, .int .i64 0, .int .i64 0, .int .i64 grp, .pointer none, .int .i32 0, .int .i64 0, .int .i64 0, .bool false, .int .u8 0, .bool false, .bool false, .bool false, .bool false, .int .i64 0, .int .i32 0, .int .u8 0, .int .i64 0, .int .i64 0, .int .i64 0, .pointer (some ⟨S, 0, none⟩), .int .i32 0, .int .i64 0, .int .i64 0, .bool false, .int .u8 0, .bool false, .bool false, .bool false, .bool false, .int .i64 0, .int .i32 0, .int .u8 5, .int .i64 0, .int .i64 0, .int .i64 grp, .pointer none, .int .i32 0, .int .i64 0, .int .i64 0, .bool false, .int .u8 0, .bool false, .bool false, .bool false, .bool false, .int .i64 0, .int .i32 0, .int .u8 14, .int .i64 ((n : Int) + 7), .int .i64 ((n : Int) + 1), .int .i64 loops, .pointer none, .int .i32 0, .int .i64 0, .int .i64 0, .bool false, .int .u8 0, .bool false, .bool false, .bool false, .bool false, .int .i64 0, .int .i32 0] 42)
              have hb18 := hb17.alloc hb17.size (.cells #[.int .u8 11, .int .i64 0, .int .i64 0, .int .i64 loops, .pointer none, .int .i32 0, .int .i64 0, .int .i64 0, .bool false, .int .u8 0, .bool false, .bool false, .bool false, .bool false, .int .i64 0, .int .i32 0, .int .u8 12, .int .i64 ((n : Int) + 7), .int .i64 0, .int .i64 loops, .pointer none, .int .i32 0, .int .i64 0, .int .i64 mx, .bool lz, .int .u8 0, .bool false, .bool false, .bool false, .bool false, .int .i64 0, .int .i32 0, .int .u8 13, .int .i64 0, .int .i64 0, .int .i64 loops, .pointer none, .int .i32 0, .int .i64 0, .int .i64 mx, .bool false, .int .u8 0, .bool false, .bool false, .bool false, .bool false, .int .i64 0, .int .i32 0, .int .u8 4, .int .i64 0, .int .i64 0, .int .i64 grp, .pointer none, .int .i32 0, .int .i64 0, .int .i64 0, .bool false, .int .u8 0, .bool false, .bool false, .bool false, .bool false, .int .i64 0, .int .i32 0, .int .u8 0, .int .i64 0, .int .i64 0, .int .i64 0, .pointer (some ⟨S, 0, none⟩), .int .i32 0, .int .i64 0, .int .i64 0, .bool false, .int .u8 0, .bool false, .bool false, .bool false, .bool false, .int .i64 0, .int .i32 0, .int .u8 5, .int .i64 0, .int .i64 0, .int .i64 grp, .pointer none, .int .i32 0, .int .i64 0, .int .i64 0, .bool false, .int .u8 0, .bool false, .bool false, .bool false, .bool false, .int .i64 0, .int .i32 0, .int .u8 14, .int .i64 ((n : Int) + 7), .int .i64 ((n : Int) + 1), .int .i64 loops, .pointer none, .int .i32 0, .int .i64 0, .int .i64 0, .bool false, .int .u8 0, .bool false, .bool false, .bool false, .bool false, .int .i64 0, .int .i32 0] 42)
              have hW18 : (w17.alloc (.cells #[.int .u8 11, .int .i64 0, .int .i64 0, .int .i64 loops, .pointer none, .int .i32 0, .int .i64 0, .int .i64 0, .bool false, .int .u8 0, .bool false, .bool false, .bool false, .bool false, .int .i64 0, .int .i32 0, .int .u8 12, .int .i64 ((n : Int) + 7), .int .i64 0, .int .i64 loops, .pointer none, .int .i32 0, .int .i64 0, .int .i64 mx, .bool lz, .int .u8 0, .bool false, .bool false, .bool false, .bool false, .int .i64 0, .int .i32 0, .int .u8 13, .int .i64 0, .int .i64 0, .int .i64 loops, .pointer none, .int .i32 0, .int .i64 0, .int .i64 mx, .bool false, .int .u8 0, .bool false, .bool false, .bool false, .bool false, .int .i64 0, .int .i32 0, .int .u8 4, .int .i64 0, .int .i64 0, .int .i64 grp, .pointer none, .int .i32 0, .int .i64 0, .int .i64 0, .bool false, .int .u8 0, .bool false, .bool false, .bool false, .bool false, .int .i64 0, .int .i32 0, .int .u8 0, .int .i64 0, .int .i64 0, .int .i64 0, .pointer (some ⟨S, 0, none⟩), .int .i32 0, .int .i64 0, .int .i64 0, .bool false, .int .u8 0, .bool false, .bool false, .bool false, .bool false, .int .i64 0, .int .i32 0, .int .u8 5, .int .i64 0, .int .i64 0, .int .i64 grp, .pointer none, .int .i32 0, .int .i64 0, .int .i64 0, .bool false, .int .u8 0, .bool false, .bool false, .bool false, .bool false, .int .i64 0, .int .i32 0, .int .u8 14, .int .i64 ((n : Int) + 7), .int .i64 ((n : Int) + 1), .int .i64 loops, .pointer none, .int .i32 0, .int .i64 0, .int .i64 0, .bool false, .int .u8 0, .bool false, .bool false, .bool false, .bool false, .int .i64 0, .int .i32 0] 42)).heap[w17.heap.size]? = some (.cells (seenRow tl).toArray 42) := by rw [htl]; exact heap_alloc_new _ _
              have hpl := progLen_any D _ v17 _ (wrap64 (loops + 1)) _ hc18
              have hlp := loops_any D _ v17 _ (wrap64 (loops + 1)) _ hc18
              rw [hlen2, htm] at hpl
              have HY0 : Hid _ := hY0
              have HY1 : Hid _ := hY1
              have HY2 : Hid _ := hY2
              clear hc17 hb17 htl HY hY0 hY1 hY2
              go_wp2_with (first | refine wpList_load_row rfl 42 (.tmp 24) rfl U0 rfl 42 _ (0, 0) _ HY0.out Try.underlying42 rfl size42 ?_ | refine wpList_load_row rfl 42 (.tmp 25) rfl U1 rfl 42 _ (0, 0) _ HY1.out Try.underlying42 rfl size42 ?_ | refine wpList_load_row rfl 42 (.tmp 26) rfl U2 rfl 42 _ (0, 0) _ HY2.out Try.underlying42 rfl size42 ?_)
              generalize w17.alloc (.cells #[.int .u8 11, .int .i64 0, .int .i64 0, .int .i64 loops, .pointer none, .int .i32 0, .int .i64 0, .int .i64 0, .bool false, .int .u8 0, .bool false, .bool false, .bool false, .bool false, .int .i64 0, .int .i32 0, .int .u8 12, .int .i64 ((n : Int) + 7), .int .i64 0, .int .i64 loops, .pointer none, .int .i32 0, .int .i64 0, .int .i64 mx, .bool lz, .int .u8 0, .bool false, .bool false, .bool false, .bool false, .int .i64 0, .int .i32 0, .int .u8 13, .int .i64 0, .int .i64 0, .int .i64 loops, .pointer none, .int .i32 0, .int .i64 0, .int .i64 mx, .bool false, .int .u8 0, .bool false, .bool false, .bool false, .bool false, .int .i64 0, .int .i32 0, .int .u8 4, .int .i64 0, .int .i64 0, .int .i64 grp, .pointer none, .int .i32 0, .int .i64 0, .int .i64 0, .bool false, .int .u8 0, .bool false, .bool false, .bool false, .bool false, .int .i64 0, .int .i32 0, .int .u8 0, .int .i64 0, .int .i64 0, .int .i64 0, .pointer (some ⟨S, 0, none⟩), .int .i32 0, .int .i64 0, .int .i64 0, .bool false, .int .u8 0, .bool false, .bool false, .bool false, .bool false, .int .i64 0, .int .i32 0, .int .u8 5, .int .i64 0, .int .i64 0, .int .i64 grp, .pointer none, .int .i32 0, .int .i64 0, .int .i64 0, .bool false, .int .u8 0, .bool false, .bool false, .bool false, .bool false, .int .i64 0, .int .i32 0, .int .u8 14, .int .i64 ((n : Int) + 7), .int .i64 ((n : Int) + 1), .int .i64 loops, .pointer none, .int .i32 0, .int .i64 0, .int .i64 0, .bool false, .int .u8 0, .bool false, .bool false, .bool false, .bool false, .int .i64 0, .int .i32 0] 42) = w18 at *
              generalize w17.heap.size = Wb at *
              refine hpl.mono ?_
              clear hpl
              rintro e w' ⟨rfl, rfl⟩
              go_wp2_with fail
              refine hlp.mono ?_
              clear hlp
              rintro e w' ⟨rfl, rfl⟩
              go_wp2_with fail
              go_loopw [34] (fun i wr => ∃ t : Nat, t ≤ n ∧ i = .int .i64 t ∧ Comp wr D w13.heap.size v17 (opsI f n ++ tl) (wrap64 (loops + 1)) ∧ Hid (wr.heap[Wb]? = some (.cells (seenRow tl).toArray 42)) ∧ Below w13.heap.size w13 wr) (fun i _ => n - (intOf i).toNat)
              case atStart => exact ⟨0, Nat.zero_le _, rfl, hc18, hW18, hb18⟩
              case round =>
                obtain ⟨t, ht, rfl, hcr, hWr, hbr⟩ := hrel
                have hsz := hbr.size
                by_cases hlt : t < n
                · obtain ⟨b, o, rfl, hcell⟩ : ∃ b o, a = some ⟨b, o, none⟩ ∧ ∀ j, j < n → w.cell? ⟨b, o + j, none⟩ = some (.int .u8 (f j)) := by
                    rcases hops with h | h
                    · omega
                    · exact h
                  have hbw := HB.out.trans (hbr.mono HB.out.size)
                  have z1 : wr.cell? ⟨b, o + t, none⟩ = some (.int .u8 (f t)) := (hbw.cell (cell_lt (hcell t hlt))).trans (hcell t hlt)
                  have hbs : b < wr.heap.size := cell_lt z1
                  have hvw := view_at D _ v17 _ (wrap64 (loops + 1)) t t rfl _ (opsI_get f n t hlt tl) (by rw [hlen2]; omega) wr.drew ⟨hcr.blk, hcr.own⟩
                  clear hcell hops
                  generalize f t = x at *
                  have ht1 : (t : Int) < n := by omega
                  go_wp2_with fail
                  go_region_held3 (fun w' => w'.cell? ⟨b, o + t, none⟩ = some (.int .u8 x)) (first | go_keep | trace_state) (first | (go_at_call 17; refine hvw.mono ?_; rintro e w' ⟨rfl, o1, o2, rfl⟩))
                  go_wp2_with fail
                  go_roundw
                  case rel => exact ⟨t + 1, by omega, by go_num, ⟨((hcr.alloc o1).alloc o2).blk, ((hcr.alloc o1).alloc o2).own⟩, alloc2_heap hWr.out o1 o2, ((hbr.alloc hsz o1).alloc (by simp; omega) o2).drew⟩
                  case measure => simp [intOf]; omega
                · obtain rfl : t = n := by omega
                  go_wp2_with fail
                  go_loopw [35] (fun i wr => ∃ t' : Nat, t' ≤ 7 ∧ i = .int .i64 t' ∧ Comp wr D w13.heap.size v17 (opsI f t ++ tl) (wrap64 (loops + 1)) ∧ Hid (wr.heap[Wb]? = some (.cells (seenRow tl).toArray 42)) ∧ Below w13.heap.size w13 wr) (fun i _ => 7 - (intOf i).toNat)
                  case atStart => exact ⟨0, Nat.zero_le _, rfl, hcr, hWr, hbr⟩
                  case round =>
                    obtain ⟨t', ht', rfl, hcr, hWr, hbr⟩ := hrel
                    have hsz := hbr.size
                    by_cases hlt2 : t' < 7
                    · obtain ⟨i, hi⟩ : ∃ i, tl[t']? = some i := ⟨_, List.getElem?_eq_getElem (by omega)⟩
                      have hRg : wr.drew.rangeAt Wb (t' * 16) i.seen := (World.rangeAt_drew _ _ _ _).2 (want_range hWr.out t' i hi)
                      have hld := load_seen Wb (t' * 16) i
                      have hvw := view_seen D _ v17 _ (wrap64 (loops + 1)) (t + t') ((t : Int) + t') (by omega) i ((opsI_past f t t' tl).trans hi) (by rw [hlen2]; omega) wr.drew ⟨hcr.blk, hcr.own⟩
                      have hWs := block_lt hWr.out
                      clear hi
                      have ht1 : (t' : Int) < 7 := by omega
                      have ht2 : (t' : Int) ≤ 10 := by omega
                      have hwr : IntKind.i64.wrap ((t : Int) + (t' : Int)) = (t : Int) + (t' : Int) := IntWalk.i64_in _ (by omega)
                      go_wp2_with fail
                      refine wp_region_held_drew (S := fun w' => w'.rangeAt Wb (t' * 16) i.seen) (by kernel_rfl) hRg (fun hHeld => ?_)
                      refine takeM (i := 0) 233 (.tmp 27) (.pointer (some ⟨D, 0, none⟩)) rfl rfl (by kernel_rfl) (by kernel_rfl) (by kernel_rfl) (fun _ _ _ h => h) rfl rfl rfl hHeld ?_
                      simp only [Act.put, List.setIfInBounds_toArray, List.set_cons_zero, List.set_cons_succ]
                      refine takeM (i := 1) 234 (.tmp 17) (.int .i64 t) rfl rfl (by kernel_rfl) (by kernel_rfl) (by kernel_rfl) (fun _ _ _ h => h) rfl rfl rfl hHeld ?_
                      simp only [Act.put, List.setIfInBounds_toArray, List.set_cons_zero, List.set_cons_succ]
                      refine takeM (i := 2) 235 (.tmp 35) (.int .i64 t') rfl rfl (by kernel_rfl) (by kernel_rfl) (by kernel_rfl) (fun _ _ _ h => h) rfl rfl rfl hHeld ?_
                      simp only [Act.put, List.setIfInBounds_toArray, List.set_cons_zero, List.set_cons_succ]
                      refine takeD (i := 3) 236 (.int .i64 ((t : Int) + (t' : Int))) rfl rfl (by kernel_rfl) (by kernel_rfl) (by kernel_rfl) (fun _ _ _ h => h) (Or.inl ⟨by rfl, ?_⟩) hHeld ?_
                      · intro w hSw
                        go_simp
                      simp only [Act.put, List.setIfInBounds_toArray, List.set_cons_zero, List.set_cons_succ]
                      refine takeM (i := 5) 238 (.tmp 29) (.slice (some ⟨Wb, 0, none⟩) 7 7) rfl rfl (by kernel_rfl) (by kernel_rfl) (by kernel_rfl) (fun _ _ _ h => h) rfl rfl rfl hHeld ?_
                      simp only [Act.put, List.setIfInBounds_toArray, List.set_cons_zero, List.set_cons_succ]
                      refine takeM (i := 6) 239 (.tmp 35) (.int .i64 t') rfl rfl (by kernel_rfl) (by kernel_rfl) (by kernel_rfl) (fun _ _ _ h => h) rfl rfl rfl hHeld ?_
                      simp only [Act.put, List.setIfInBounds_toArray, List.set_cons_zero, List.set_cons_succ]
                      refine takeD (i := 7) 240 (.pointer (some ⟨Wb, t' * 16, none⟩)) rfl rfl (by kernel_rfl) (by kernel_rfl) (by kernel_rfl) (fun _ _ _ h => h) (Or.inl ⟨by rfl, ?_⟩) hHeld ?_
                      · intro w hSw
                        go_simp
                      simp only [Act.put, List.setIfInBounds_toArray, List.set_cons_zero, List.set_cons_succ]
                      refine takeD (i := 8) 241 (.agg i.seen.toArray) rfl rfl (by kernel_rfl) (by kernel_rfl) (by kernel_rfl) (fun _ _ _ h => h) (yieldsIf_load_mid (by rfl) 42 (.tmp 240) rfl Wb (t' * 16) rfl i.seen _ (fun _ h => h) Try.underlying42 rfl size42) hHeld ?_
                      simp only [Act.put, List.setIfInBounds_toArray, List.set_cons_zero, List.set_cons_succ]
                      refine wpAnyH_ready (rs := [4]) (by kernel_rfl) (by simp) ?_
                      refine AllReadyH.cons rfl (fun K hK => ?_) AllReadyH.nil
                      go_simp
                      refine hvw.mono ?_
                      rintro e w' ⟨rfl, o1, o2, rfl⟩
                      go_wp2_with fail
                      refine hK.out _ _ (World.rangeAt_alloc (World.rangeAt_alloc hHeld _) _) (fun hHeld => ?_)
                      clear hK K
                      refine takeD (i := 9) 242 (.bool false) rfl rfl (by kernel_rfl) (by kernel_rfl) (by kernel_rfl) (fun _ _ _ h => h) (Or.inl ⟨by rfl, ?_⟩) hHeld ?_
                      · intro w hSw
                        go_simp
                      simp only [Act.put, List.setIfInBounds_toArray, List.set_cons_zero, List.set_cons_succ]
                      refine wpAnyH_done (by kernel_rfl) ?_ _
                      go_wp2_with fail
                      go_roundw
                      case rel => exact ⟨t' + 1, by omega, by go_num, ⟨((hcr.alloc o1).alloc o2).blk, ((hcr.alloc o1).alloc o2).own⟩, (Below.heap_alloc _ _ _ (by simp; omega)).trans ((Below.heap_alloc _ _ _ hWs).trans hWr.out), ((hbr.alloc hsz o1).alloc (by simp; omega) o2).drew⟩
                      case measure => simp [intOf]; omega
                    · obtain rfl : t' = 7 := by omega
                      go_wp2_with fail
                      go_ret
                      exact ⟨rfl, HB.out.trans (hbr.mono HB.out.size)⟩
          · focus
              clear h11 h01
              have htm : tl.length = 7 := by rw [htl]; rfl
              obtain ⟨hY0, hY1, hY2⟩ := HY.out
              have hx0 := block_lt hY0
              have hx1 := block_lt hY1
              have hx2 := block_lt hY2
              have hc18 := hc17.alloc (.cells #[.int .u8 11, .int .i64 0, .int .i64 0, .int .i64 loops, .pointer none, .int .i32 0, .int .i64 0, .int .i64 0, .bool false, .int .u8 0, .bool false, .bool false, .bool false, .bool false, .int .i64 0, .int .i32 0, .int .u8 12, .int .i64 ((n : Int) + 7), .int .i64 0, .int .i64 loops, .pointer none, .int .i32 0, .int .i64 mn, .int .i64 mx, .bool lz, .int .u8 0, .bool false, .bool false, .bool false, .bool false, .int .i64 0, .int .i32 0, .int .u8 13, .int .i64 0, .int .i64 0, .int .i64 loops, .pointer none, .int .i32 0, .int .i64 mn, .int .i64 mx, .bool false, .int .u8 0, .bool false, .bool false, .bool false, .bool false, .int .i64 0, .int .i32 0, .int .u8 4, .int .i64 0, .int .i64 0, .int .i64 grp, .pointer none, .int .i32 0, .int .i64 0, .int .i64 0, .bool false, .int .u8 0, .bool false, .bool false, .bool false, .bool false, .int .i64 0, .int .i32 0, .int .u8 0, .int .i64 0, .int .i64 0, .int .i64 0, .pointer (some ⟨S, 0, none⟩), .int .i32 0, .int .i64 0, .int .i64 0, .bool false, .int .u8 0, .bool false, .bool false, .bool false, .bool false, .int .i64 0, .int .i32 0, .int .u8 5, .int .i64 0, .int .i64 0, .int .i64 grp, .pointer none, .int .i32 0, .int .i64 0, .int .i64 0, .bool false, .int .u8 0, .bool false, .bool false, .bool false, .bool false, .int .i64 0, .int .i32 0, .int .u8 14, .int .i64 ((n : Int) + 7), .int .i64 ((n : Int) + 1), .int .i64 loops, .pointer none, .int .i32 0, .int .i64 mn, .int .i64 0, .bool false, .int .u8 0, .bool false, .bool false, .bool false, .bool false, .int .i64 0, .int .i32 0] 42)
              have hb18 := hb17.alloc hb17.size (.cells #[.int .u8 11, .int .i64 0, .int .i64 0, .int .i64 loops, .pointer none, .int .i32 0, .int .i64 0, .int .i64 0, .bool false, .int .u8 0, .bool false, .bool false, .bool false, .bool false, .int .i64 0, .int .i32 0, .int .u8 12, .int .i64 ((n : Int) + 7), .int .i64 0, .int .i64 loops, .pointer none, .int .i32 0, .int .i64 mn, .int .i64 mx, .bool lz, .int .u8 0, .bool false, .bool false, .bool false, .bool false, .int .i64 0, .int .i32 0, .int .u8 13, .int .i64 0, .int .i64 0, .int .i64 loops, .pointer none, .int .i32 0, .int .i64 mn, .int .i64 mx, .bool false, .int .u8 0, .bool false, .bool false, .bool false, .bool false, .int .i64 0, .int .i32 0, .int .u8 4, .int .i64 0, .int .i64 0, .int .i64 grp, .pointer none, .int .i32 0, .int .i64 0, .int .i64 0, .bool false, .int .u8 0, .bool false, .bool false, .bool false, .bool false, .int .i64 0, .int .i32 0, .int .u8 0, .int .i64 0, .int .i64 0, .int .i64 0, .pointer (some ⟨S, 0, none⟩), .int .i32 0, .int .i64 0, .int .i64 0, .bool false, .int .u8 0, .bool false, .bool false, .bool false, .bool false, .int .i64 0, .int .i32 0, .int .u8 5, .int .i64 0, .int .i64 0, .int .i64 grp, .pointer none, .int .i32 0, .int .i64 0, .int .i64 0, .bool false, .int .u8 0, .bool false, .bool false, .bool false, .bool false, .int .i64 0, .int .i32 0, .int .u8 14, .int .i64 ((n : Int) + 7), .int .i64 ((n : Int) + 1), .int .i64 loops, .pointer none, .int .i32 0, .int .i64 mn, .int .i64 0, .bool false, .int .u8 0, .bool false, .bool false, .bool false, .bool false, .int .i64 0, .int .i32 0] 42)
              have hW18 : (w17.alloc (.cells #[.int .u8 11, .int .i64 0, .int .i64 0, .int .i64 loops, .pointer none, .int .i32 0, .int .i64 0, .int .i64 0, .bool false, .int .u8 0, .bool false, .bool false, .bool false, .bool false, .int .i64 0, .int .i32 0, .int .u8 12, .int .i64 ((n : Int) + 7), .int .i64 0, .int .i64 loops, .pointer none, .int .i32 0, .int .i64 mn, .int .i64 mx, .bool lz, .int .u8 0, .bool false, .bool false, .bool false, .bool false, .int .i64 0, .int .i32 0, .int .u8 13, .int .i64 0, .int .i64 0, .int .i64 loops, .pointer none, .int .i32 0, .int .i64 mn, .int .i64 mx, .bool false, .int .u8 0, .bool false, .bool false, .bool false, .bool false, .int .i64 0, .int .i32 0, .int .u8 4, .int .i64 0, .int .i64 0, .int .i64 grp, .pointer none, .int .i32 0, .int .i64 0, .int .i64 0, .bool false, .int .u8 0, .bool false, .bool false, .bool false, .bool false, .int .i64 0, .int .i32 0, .int .u8 0, .int .i64 0, .int .i64 0, .int .i64 0, .pointer (some ⟨S, 0, none⟩), .int .i32 0, .int .i64 0, .int .i64 0, .bool false, .int .u8 0, .bool false, .bool false, .bool false, .bool false, .int .i64 0, .int .i32 0, .int .u8 5, .int .i64 0, .int .i64 0, .int .i64 grp, .pointer none, .int .i32 0, .int .i64 0, .int .i64 0, .bool false, .int .u8 0, .bool false, .bool false, .bool false, .bool false, .int .i64 0, .int .i32 0, .int .u8 14, .int .i64 ((n : Int) + 7), .int .i64 ((n : Int) + 1), .int .i64 loops, .pointer none, .int .i32 0, .int .i64 mn, .int .i64 0, .bool false, .int .u8 0, .bool false, .bool false, .bool false, .bool false, .int .i64 0, .int .i32 0] 42)).heap[w17.heap.size]? = some (.cells (seenRow tl).toArray 42) := by rw [htl]; exact heap_alloc_new _ _
              have hpl := progLen_any D _ v17 _ (wrap64 (loops + 1)) _ hc18
              have hlp := loops_any D _ v17 _ (wrap64 (loops + 1)) _ hc18
              rw [hlen2, htm] at hpl
              have HY0 : Hid _ := hY0
              have HY1 : Hid _ := hY1
              have HY2 : Hid _ := hY2
              clear hc17 hb17 htl HY hY0 hY1 hY2
              go_wp2_with (first | refine wpList_load_row rfl 42 (.tmp 24) rfl U0 rfl 42 _ (0, 0) _ HY0.out Try.underlying42 rfl size42 ?_ | refine wpList_load_row rfl 42 (.tmp 25) rfl U1 rfl 42 _ (0, 0) _ HY1.out Try.underlying42 rfl size42 ?_ | refine wpList_load_row rfl 42 (.tmp 26) rfl U2 rfl 42 _ (0, 0) _ HY2.out Try.underlying42 rfl size42 ?_)
              generalize w17.alloc (.cells #[.int .u8 11, .int .i64 0, .int .i64 0, .int .i64 loops, .pointer none, .int .i32 0, .int .i64 0, .int .i64 0, .bool false, .int .u8 0, .bool false, .bool false, .bool false, .bool false, .int .i64 0, .int .i32 0, .int .u8 12, .int .i64 ((n : Int) + 7), .int .i64 0, .int .i64 loops, .pointer none, .int .i32 0, .int .i64 mn, .int .i64 mx, .bool lz, .int .u8 0, .bool false, .bool false, .bool false, .bool false, .int .i64 0, .int .i32 0, .int .u8 13, .int .i64 0, .int .i64 0, .int .i64 loops, .pointer none, .int .i32 0, .int .i64 mn, .int .i64 mx, .bool false, .int .u8 0, .bool false, .bool false, .bool false, .bool false, .int .i64 0, .int .i32 0, .int .u8 4, .int .i64 0, .int .i64 0, .int .i64 grp, .pointer none, .int .i32 0, .int .i64 0, .int .i64 0, .bool false, .int .u8 0, .bool false, .bool false, .bool false, .bool false, .int .i64 0, .int .i32 0, .int .u8 0, .int .i64 0, .int .i64 0, .int .i64 0, .pointer (some ⟨S, 0, none⟩), .int .i32 0, .int .i64 0, .int .i64 0, .bool false, .int .u8 0, .bool false, .bool false, .bool false, .bool false, .int .i64 0, .int .i32 0, .int .u8 5, .int .i64 0, .int .i64 0, .int .i64 grp, .pointer none, .int .i32 0, .int .i64 0, .int .i64 0, .bool false, .int .u8 0, .bool false, .bool false, .bool false, .bool false, .int .i64 0, .int .i32 0, .int .u8 14, .int .i64 ((n : Int) + 7), .int .i64 ((n : Int) + 1), .int .i64 loops, .pointer none, .int .i32 0, .int .i64 mn, .int .i64 0, .bool false, .int .u8 0, .bool false, .bool false, .bool false, .bool false, .int .i64 0, .int .i32 0] 42) = w18 at *
              generalize w17.heap.size = Wb at *
              refine hpl.mono ?_
              clear hpl
              rintro e w' ⟨rfl, rfl⟩
              go_wp2_with fail
              refine hlp.mono ?_
              clear hlp
              rintro e w' ⟨rfl, rfl⟩
              go_wp2_with fail
              go_loopw [34] (fun i wr => ∃ t : Nat, t ≤ n ∧ i = .int .i64 t ∧ Comp wr D w13.heap.size v17 (opsI f n ++ tl) (wrap64 (loops + 1)) ∧ Hid (wr.heap[Wb]? = some (.cells (seenRow tl).toArray 42)) ∧ Below w13.heap.size w13 wr) (fun i _ => n - (intOf i).toNat)
              case atStart => exact ⟨0, Nat.zero_le _, rfl, hc18, hW18, hb18⟩
              case round =>
                obtain ⟨t, ht, rfl, hcr, hWr, hbr⟩ := hrel
                have hsz := hbr.size
                by_cases hlt : t < n
                · obtain ⟨b, o, rfl, hcell⟩ : ∃ b o, a = some ⟨b, o, none⟩ ∧ ∀ j, j < n → w.cell? ⟨b, o + j, none⟩ = some (.int .u8 (f j)) := by
                    rcases hops with h | h
                    · omega
                    · exact h
                  have hbw := HB.out.trans (hbr.mono HB.out.size)
                  have z1 : wr.cell? ⟨b, o + t, none⟩ = some (.int .u8 (f t)) := (hbw.cell (cell_lt (hcell t hlt))).trans (hcell t hlt)
                  have hbs : b < wr.heap.size := cell_lt z1
                  have hvw := view_at D _ v17 _ (wrap64 (loops + 1)) t t rfl _ (opsI_get f n t hlt tl) (by rw [hlen2]; omega) wr.drew ⟨hcr.blk, hcr.own⟩
                  clear hcell hops
                  generalize f t = x at *
                  have ht1 : (t : Int) < n := by omega
                  go_wp2_with fail
                  go_region_held3 (fun w' => w'.cell? ⟨b, o + t, none⟩ = some (.int .u8 x)) (first | go_keep | trace_state) (first | (go_at_call 17; refine hvw.mono ?_; rintro e w' ⟨rfl, o1, o2, rfl⟩))
                  go_wp2_with fail
                  go_roundw
                  case rel => exact ⟨t + 1, by omega, by go_num, ⟨((hcr.alloc o1).alloc o2).blk, ((hcr.alloc o1).alloc o2).own⟩, alloc2_heap hWr.out o1 o2, ((hbr.alloc hsz o1).alloc (by simp; omega) o2).drew⟩
                  case measure => simp [intOf]; omega
                · obtain rfl : t = n := by omega
                  go_wp2_with fail
                  go_loopw [35] (fun i wr => ∃ t' : Nat, t' ≤ 7 ∧ i = .int .i64 t' ∧ Comp wr D w13.heap.size v17 (opsI f t ++ tl) (wrap64 (loops + 1)) ∧ Hid (wr.heap[Wb]? = some (.cells (seenRow tl).toArray 42)) ∧ Below w13.heap.size w13 wr) (fun i _ => 7 - (intOf i).toNat)
                  case atStart => exact ⟨0, Nat.zero_le _, rfl, hcr, hWr, hbr⟩
                  case round =>
                    obtain ⟨t', ht', rfl, hcr, hWr, hbr⟩ := hrel
                    have hsz := hbr.size
                    by_cases hlt2 : t' < 7
                    · obtain ⟨i, hi⟩ : ∃ i, tl[t']? = some i := ⟨_, List.getElem?_eq_getElem (by omega)⟩
                      have hRg : wr.drew.rangeAt Wb (t' * 16) i.seen := (World.rangeAt_drew _ _ _ _).2 (want_range hWr.out t' i hi)
                      have hld := load_seen Wb (t' * 16) i
                      have hvw := view_seen D _ v17 _ (wrap64 (loops + 1)) (t + t') ((t : Int) + t') (by omega) i ((opsI_past f t t' tl).trans hi) (by rw [hlen2]; omega) wr.drew ⟨hcr.blk, hcr.own⟩
                      have hWs := block_lt hWr.out
                      clear hi
                      have ht1 : (t' : Int) < 7 := by omega
                      have ht2 : (t' : Int) ≤ 10 := by omega
                      have hwr : IntKind.i64.wrap ((t : Int) + (t' : Int)) = (t : Int) + (t' : Int) := IntWalk.i64_in _ (by omega)
                      go_wp2_with fail
                      refine wp_region_held_drew (S := fun w' => w'.rangeAt Wb (t' * 16) i.seen) (by kernel_rfl) hRg (fun hHeld => ?_)
                      refine takeM (i := 0) 233 (.tmp 27) (.pointer (some ⟨D, 0, none⟩)) rfl rfl (by kernel_rfl) (by kernel_rfl) (by kernel_rfl) (fun _ _ _ h => h) rfl rfl rfl hHeld ?_
                      simp only [Act.put, List.setIfInBounds_toArray, List.set_cons_zero, List.set_cons_succ]
                      refine takeM (i := 1) 234 (.tmp 17) (.int .i64 t) rfl rfl (by kernel_rfl) (by kernel_rfl) (by kernel_rfl) (fun _ _ _ h => h) rfl rfl rfl hHeld ?_
                      simp only [Act.put, List.setIfInBounds_toArray, List.set_cons_zero, List.set_cons_succ]
                      refine takeM (i := 2) 235 (.tmp 35) (.int .i64 t') rfl rfl (by kernel_rfl) (by kernel_rfl) (by kernel_rfl) (fun _ _ _ h => h) rfl rfl rfl hHeld ?_
                      simp only [Act.put, List.setIfInBounds_toArray, List.set_cons_zero, List.set_cons_succ]
                      refine takeD (i := 3) 236 (.int .i64 ((t : Int) + (t' : Int))) rfl rfl (by kernel_rfl) (by kernel_rfl) (by kernel_rfl) (fun _ _ _ h => h) (Or.inl ⟨by rfl, ?_⟩) hHeld ?_
                      · intro w hSw
                        go_simp
                      simp only [Act.put, List.setIfInBounds_toArray, List.set_cons_zero, List.set_cons_succ]
                      refine takeM (i := 5) 238 (.tmp 29) (.slice (some ⟨Wb, 0, none⟩) 7 7) rfl rfl (by kernel_rfl) (by kernel_rfl) (by kernel_rfl) (fun _ _ _ h => h) rfl rfl rfl hHeld ?_
                      simp only [Act.put, List.setIfInBounds_toArray, List.set_cons_zero, List.set_cons_succ]
                      refine takeM (i := 6) 239 (.tmp 35) (.int .i64 t') rfl rfl (by kernel_rfl) (by kernel_rfl) (by kernel_rfl) (fun _ _ _ h => h) rfl rfl rfl hHeld ?_
                      simp only [Act.put, List.setIfInBounds_toArray, List.set_cons_zero, List.set_cons_succ]
                      refine takeD (i := 7) 240 (.pointer (some ⟨Wb, t' * 16, none⟩)) rfl rfl (by kernel_rfl) (by kernel_rfl) (by kernel_rfl) (fun _ _ _ h => h) (Or.inl ⟨by rfl, ?_⟩) hHeld ?_
                      · intro w hSw
                        go_simp
                      simp only [Act.put, List.setIfInBounds_toArray, List.set_cons_zero, List.set_cons_succ]
                      refine takeD (i := 8) 241 (.agg i.seen.toArray) rfl rfl (by kernel_rfl) (by kernel_rfl) (by kernel_rfl) (fun _ _ _ h => h) (yieldsIf_load_mid (by rfl) 42 (.tmp 240) rfl Wb (t' * 16) rfl i.seen _ (fun _ h => h) Try.underlying42 rfl size42) hHeld ?_
                      simp only [Act.put, List.setIfInBounds_toArray, List.set_cons_zero, List.set_cons_succ]
                      refine wpAnyH_ready (rs := [4]) (by kernel_rfl) (by simp) ?_
                      refine AllReadyH.cons rfl (fun K hK => ?_) AllReadyH.nil
                      go_simp
                      refine hvw.mono ?_
                      rintro e w' ⟨rfl, o1, o2, rfl⟩
                      go_wp2_with fail
                      refine hK.out _ _ (World.rangeAt_alloc (World.rangeAt_alloc hHeld _) _) (fun hHeld => ?_)
                      clear hK K
                      refine takeD (i := 9) 242 (.bool false) rfl rfl (by kernel_rfl) (by kernel_rfl) (by kernel_rfl) (fun _ _ _ h => h) (Or.inl ⟨by rfl, ?_⟩) hHeld ?_
                      · intro w hSw
                        go_simp
                      simp only [Act.put, List.setIfInBounds_toArray, List.set_cons_zero, List.set_cons_succ]
                      refine wpAnyH_done (by kernel_rfl) ?_ _
                      go_wp2_with fail
                      go_roundw
                      case rel => exact ⟨t' + 1, by omega, by go_num, ⟨((hcr.alloc o1).alloc o2).blk, ((hcr.alloc o1).alloc o2).own⟩, (Below.heap_alloc _ _ _ (by simp; omega)).trans ((Below.heap_alloc _ _ _ hWs).trans hWr.out), ((hbr.alloc hsz o1).alloc (by simp; omega) o2).drew⟩
                      case measure => simp [intOf]; omega
                    · obtain rfl : t' = 7 := by omega
                      go_wp2_with fail
                      go_ret
                      exact ⟨rfl, HB.out.trans (hbr.mono HB.out.size)⟩

end Go.Proofs.Qxb6613789a.Rp
