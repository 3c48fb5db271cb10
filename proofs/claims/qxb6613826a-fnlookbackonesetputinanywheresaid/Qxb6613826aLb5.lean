import Derived.Test.Qxb6613826aLb4
namespace Go.Proofs.Qxb6613826a.Lb
open Go.RowKit

set_option maxRecDepth 100000 in
set_option maxHeartbeats 2000000 in
theorem cut_none (a : Option Addr) (c : Nat) (q : Int) (w : World) :
    Calls Try.prog 3 #[.slice a 0 c, .int .i64 q] w fun e w' => e = .returned (.bool true) ∧ Below w.heap.size w w' := by
  have hz := fun (p : Option Addr) (c : Nat) (W : World) => zzSets_any p 0 c (fun _ => .nilIface) (fun _ => 0) (fun _ _ => 0) W (.inl rfl) (by omega) (fun i hi => by omega)
  have hl : ∀ (v : Value) (W : World) (_ : SetsAt W v 0 (fun _ => 0) (fun _ _ => 0)), Calls Try.prog 7 #[v] W fun e w' => e = .returned (.int .i64 0) ∧ Below W.heap.size W w' := fun v W h => lookBack_any v 0 _ _ W h (by omega) (fun i hi => by omega)
  go_enter Try.func3, Try.ntmps3
  go_wp2_with fail
  refine (bytes5_any a 0 c (fun _ => .nilIface) (fun _ => 0) (fun _ _ => 0) q w (.inl rfl)).mono ?_
  rintro e w' ⟨⟨r, rfl⟩, rfl⟩
  cases r
  · go_wp2_with fail
    go_ret
    exact ⟨rfl, Below.refl _ _⟩
  go_wp2_with fail
  refine wp_loop_rounds 1 ?_
  rw [rounds_succ]
  by_cases t1 : q < 0
  · go_wp2_with fail
    go_ret
    exact ⟨rfl, Below.refl _ _⟩
  by_cases t2 : 0 < q
  · go_wp2_with fail
    go_ret
    exact ⟨rfl, Below.refl _ _⟩
  obtain rfl : q = 0 := by omega
  go_wp2_with fail
  refine (hz a c w).mono ?_
  rintro e w1 ⟨v1, rfl, hs1, hb1⟩
  go_wp2_with fail
  refine (hl v1 w1 hs1).mono ?_
  rintro e w2 ⟨rfl, hb2⟩
  have hw2 : Below w.heap.size w w2 := hb1.trans (hb2.mono hb1.size)
  clear hs1 hb1 hb2
  cases a
  all_goals
    go_wp2_with fail
    refine (hz _ _ w2).mono ?_
    rintro e w3 ⟨v3, rfl, hs3, hb3⟩
    go_wp2_with fail
    refine (hl v3 w3 hs3).mono ?_
    rintro e w4 ⟨rfl, hb4⟩
    have hw4 : Below w.heap.size w w4 := hw2.trans ((hb3.trans (hb4.mono hb3.size)).mono hw2.size)
    clear hs3 hb3 hb4 hw2
    go_wp2_with fail
    all_goals
      refine (hz _ _ w4).mono ?_
      rintro e w5 ⟨v5, rfl, hs5, hb5⟩
      go_wp2_with fail
      refine (hl v5 w5 hs5).mono ?_
      rintro e w6 ⟨rfl, hb6⟩
      have hw6 : Below w.heap.size w w6 := hw4.trans ((hb5.trans (hb6.mono hb5.size)).mono hw4.size)
      clear hs5 hb5 hb6 hw4
      go_wp2_with fail
      refine (zzMax_any 0 0 w6).mono ?_
      rintro e w' ⟨rfl, rfl⟩
      go_wp2_with fail
      refine wp_loop_rounds 1 ?_
      rw [rounds_succ]
      go_wp2_with fail
      go_ret
      exact ⟨rfl, hw6⟩
end Go.Proofs.Qxb6613826a.Lb
