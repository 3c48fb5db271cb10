import Derived.Test.Qxb6613789aRc6
namespace Go.Proofs.Qxb6613789a.Rp
open Go.RowKit

/-- The five ways of a repeat: what it compiles to behind n instructions, and its count of loops. -/
def Shape (n : Nat) (mn mx : Int) (lz : Bool) (loops : Int) (bd tl : List In) (LL : Int) : Prop :=
  (mx = 0 ∧ tl = [] ∧ LL = loops) ∨ (mn = 1 ∧ mx = 1 ∧ tl = bd ∧ LL = loops) ∨
  (mn = 0 ∧ mx = 1 ∧ lz = false ∧ tl = { op := 2, x := (n : Int) + 1, y := (n : Int) + 4 } :: bd ∧ LL = loops) ∨
  (mn = 0 ∧ mx = 1 ∧ lz = true ∧ tl = { op := 2, x := (n : Int) + 4, y := (n : Int) + 1 } :: bd ∧ LL = loops) ∨
  (¬ mx = 0 ∧ ¬ (mn = 1 ∧ mx = 1) ∧ ¬ (mn = 0 ∧ mx = 1) ∧ tl = { op := 11, n := loops } :: { op := 12, n := loops, min := mn, max := mx, lazy := lz, x := (n : Int) + 7 } :: { op := 13, n := loops, min := mn, max := mx } :: (bd ++ [{ op := 14, n := loops, y := (n : Int) + 1, min := mn, x := (n : Int) + 7 }]) ∧ LL = wrap64 (loops + 1))

theorem repcap_any (N K N' S : Nat) (lo hi grp mn mx : Int) (lz : Bool) (is : List In) (C base B : Nat) (v : Value) (loops : Int) (w : World) (hN : RepAt w N K mn mx lz) (hK : CapAt w K N' grp) (hN' : CharsAt w N' S) (hS : ∀ W, Below B w W → OneSet W S lo hi) (h : Comp w C base v is loops) (hB : B ≤ base) (hC : B ≤ C) (hbase : base ≤ w.heap.size) (hn : is.length ≤ 70000) :
    Calls Try.prog 34 #[.pointer (some ⟨C, 0, none⟩), .pointer (some ⟨N, 0, none⟩)] w fun e w' => e = .returned .nilIface ∧ ∃ tl LL v', Shape is.length mn mx lz loops (bodyI S lo hi grp) tl LL ∧ Comp w' C base v' (is ++ tl) LL ∧ Below B w w' := by
  by_cases h0 : mx = 0
  · subst h0
    refine (repeat_zero N K C mn lz w hN).mono ?_
    rintro e w' ⟨rfl, rfl⟩
    exact ⟨rfl, [], loops, v, .inl ⟨rfl, rfl, rfl⟩, by rw [List.append_nil]; exact h, Below.refl _ _⟩
  by_cases h11 : mn = 1 ∧ mx = 1
  · obtain ⟨rfl, rfl⟩ := h11
    refine (repcap_one N K N' S lo hi grp lz is C base B v loops w hN hK hN' hS h hB hC hbase hn).mono ?_
    rintro e w' ⟨rfl, ⟨v', hc⟩, _, hb⟩
    exact ⟨rfl, _, _, v', .inr (.inl ⟨rfl, rfl, rfl, rfl⟩), hc, hb⟩
  by_cases h01 : mn = 0 ∧ mx = 1
  · obtain ⟨rfl, rfl⟩ := h01
    refine (repcap_opt N K N' S lo hi grp lz is C base B v loops w hN hK hN' hS h hB hC hbase hn).mono ?_
    rintro e w' ⟨rfl, ⟨v', hc⟩, _, hb⟩
    cases lz
    · exact ⟨rfl, _, _, v', .inr (.inr (.inl ⟨rfl, rfl, rfl, rfl, rfl⟩)), hc, hb⟩
    · exact ⟨rfl, _, _, v', .inr (.inr (.inr (.inl ⟨rfl, rfl, rfl, rfl, rfl⟩))), hc, hb⟩
  have fin : ∀ (e : Ending) (w' : World), (e = .returned .nilIface ∧ (∃ v', Comp w' C base v' (is ++ ({ op := 11, n := loops } : In) :: { op := 12, n := loops, min := mn, max := mx, lazy := lz, x := (is.length : Int) + 7 } :: { op := 13, n := loops, min := mn, max := mx } :: (bodyI S lo hi grp ++ [{ op := 14, n := loops, y := (is.length : Int) + 1, min := mn, x := (is.length : Int) + 7 }])) (wrap64 (loops + 1))) ∧ Kept w w' C ∧ Below B w w') → e = .returned .nilIface ∧ ∃ tl LL v', Shape is.length mn mx lz loops (bodyI S lo hi grp) tl LL ∧ Comp w' C base v' (is ++ tl) LL ∧ Below B w w' := by
    rintro e w' ⟨rfl, ⟨v', hc⟩, _, hb⟩
    exact ⟨rfl, _, _, v', .inr (.inr (.inr (.inr ⟨h0, h11, h01, rfl, rfl⟩))), hc, hb⟩
  by_cases m1 : mn = 1
  · subst m1
    exact (repcap_loop1 N K N' S lo hi grp mx lz is C base B v loops w hN hK hN' hS h hB hC hbase hn h0 (fun e => h11 ⟨rfl, e⟩)).mono fin
  by_cases m0 : mn = 0
  · subst m0
    exact (repcap_loop0 N K N' S lo hi grp mx lz is C base B v loops w hN hK hN' hS h hB hC hbase hn h0 (fun e => h01 ⟨rfl, e⟩)).mono fin
  exact (repcap_loopn N K N' S lo hi grp mn mx lz is C base B v loops w hN hK hN' hS h hB hC hbase hn h0 m1 m0).mono fin
end Go.Proofs.Qxb6613789a.Rp
