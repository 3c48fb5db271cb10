/-
  The proof of 'Rows.FnChainOfConcatenationSaid'.
-/
import Derived.Test.Qxb6609495aRows
import Derived.WalkKit
import Derived.ProofKit
import Derived.OpenShut
import Derived.ShutString
import Derived.ChangeOld
import Derived.Below
import Derived.Carry
import Derived.Deep.Slices
import Derived.Test.Qxb6609495aCh6
namespace Go.Proofs.Qxb6609495a.ConcatProof
open Go.ChangeShapes Go.WideShapes Go.ChangeAt Go.RowKit Go.Deep
open Go.ChangeMaps (open_string shut_string)
set_option linter.unusedVariables false

theorem own : ownKnob Try.prog.godebug = none := by kernel_rfl
theorem laidOut : laidOutB Try.prog = true := by kernel_rfl

/-- What the walk is told of a slice of entries that came in. -/
def IsEnts (w : World) (a : Option Addr) (len cap : Nat) : Prop := len ≤ cap ∧ (a = none → len = 0 ∧ cap = 0) ∧ ∃ s c bad, Ch.EntsAt w a len s c bad

theorem cells36 : Try.prog.cellsOf 36 = 3 := by kernel_rfl
theorem cells9 : Try.prog.cellsOf 9 = 1 := by kernel_rfl
theorem cells34 : Try.prog.cellsOf 34 = 1 := by kernel_rfl
theorem cells4 : Try.prog.cellsOf 4 = 1 := by kernel_rfl

theorem ents_of {H : Type} {enc : TypeId × Value → H} {W : World} {a : Option Addr} {len cap : Nat} {d : DataW H} {ps : List MemPlace} (h : DataW.Trod enc Try.prog W 0 (fun _ => true) true 23 (.slice a len cap) d ps) : IsEnts W a len cap := by
  obtain ⟨fuel, hf⟩ := h
  rcases open_slice Try.underlying23 hf with ⟨hcs, _⟩ | ⟨x, l, c, m, n, D, Pl, hcs, _, hl, _, hm, _, hx⟩
  · simp [Value.cells] at hcs
    obtain ⟨rfl, rfl, rfl⟩ := hcs
    exact ⟨Nat.le_refl _, fun _ => ⟨rfl, rfl⟩, fun _ => ⟨#[]⟩, fun _ => 0, fun _ => false, .inl rfl⟩
  · simp [Value.cells] at hcs
    obtain ⟨rfl, rfl, rfl⟩ := hcs
    simp at hm
    subst hm
    refine ⟨hl, fun e => by simp at e, ?_⟩
    have each : ∀ i, i < len → ∃ (s : ByteArray) (n : Int) (b : Bool), W.cell? (x.add (i * 3)) = some (.string s) ∧ W.cell? (x.add (i * 3 + 1)) = some (.int .u64 n) ∧ W.cell? (x.add (i * 3 + 2)) = some (.bool b) := by
      intro i hi
      obtain ⟨cs', h1, h2⟩ := hx i (by omega)
      rw [cells36] at h1
      obtain ⟨_, hlen, hcell⟩ := World.cells?_some h1
      obtain ⟨xs, k, hk, hxy, _, hxl, hfs⟩ := DataW.trod_struct Try.underlying36 h2
      match xs, hxl, cs', hlen with
      | [y0, y1, y2], _, [v0, v1, v2], _ =>
        have g0 := hfs 0 _ rfl
        have g1 := hfs 1 _ rfl
        have g2 := hfs 2 _ rfl
        simp [cells9, cells34, cells4] at g0 g1 g2
        obtain ⟨s, e0, _⟩ := DataW.trod_string Try.underlying9 g0
        obtain ⟨n, e1, _⟩ := DataW.trod_int Try.underlying34 g1
        obtain ⟨b, e2, _⟩ := DataW.trod_bool Try.underlying4 g2
        have c0 := hcell 0 (by omega)
        have c1 := hcell 1 (by omega)
        have c2 := hcell 2 (by omega)
        rw [Addr.add_add] at c0 c1 c2
        simp at e0 e1 e2
        subst e0 e1 e2
        exact ⟨s, n, b, by simpa using c0, by simpa using c1, by simpa using c2⟩
    by_cases hz0 : len = 0
    · exact ⟨fun _ => ⟨#[]⟩, fun _ => 0, fun _ => false, .inl hz0⟩
    obtain ⟨b, o, spot⟩ := x
    have hspot : spot = none := by
      obtain ⟨s, n, bb, e, _, _⟩ := each 0 (by omega)
      simpa [Addr.add] using World.cell?_spot e
    subst hspot
    have each2 : ∀ i, i < len → ∃ q : ByteArray × Int × Bool, W.cell? ⟨b, o + i * 3, none⟩ = some (.string q.1) ∧ W.cell? ⟨b, o + i * 3 + 1, none⟩ = some (.int .u64 q.2.1) ∧ W.cell? ⟨b, o + i * 3 + 2, none⟩ = some (.bool q.2.2) := by
      intro i hi
      obtain ⟨s, n, bb, e0, e1, e2⟩ := each i hi
      rw [Addr.add_lit] at e0 e1 e2
      exact ⟨(s, n, bb), e0, by rw [Nat.add_assoc]; exact e1, by rw [Nat.add_assoc]; exact e2⟩
    obtain ⟨q, hq⟩ := choose_lt each2
    exact ⟨fun i => (q i).1, fun i => (q i).2.1, fun i => (q i).2.2, .inr ⟨b, o, rfl, fun i hi => hq i hi⟩⟩

/-! ### STEP 1: the walk -/
theorem walk (a0 : Option Addr) (len0 cap0 : Nat) (a1 : Option Addr) (len1 cap1 : Nat) (a2 : Option Addr) (len2 cap2 : Nat) (w : World) (w1 : IsEnts w a1 len1 cap1) (w2 : IsEnts w a2 len2 cap2) :
    Calls Try.prog 4 #[.slice a0 len0 cap0, .slice a1 len1 cap1, .slice a2 len2 cap2] w fun e w' => e = .returned (.bool true) ∧ Below w.heap.size w w' := by
  obtain ⟨_, hn1, s, c, bad, h⟩ := w1
  obtain ⟨_, hn2, s', c', bad', h'⟩ := w2
  exact Ch.law2_any a0 len0 cap0 a1 len1 cap1 a2 len2 cap2 s c bad s' c' bad' w h h' hn1 hn2

/-! ### THE ROW's STEP -/
set_option maxRecDepth 100000 in
theorem lifted (os : Os) (started : os.Started) (H : Type) (enc : TypeId × Value → H) :
    ReturnsInHanded {} Try.checked os 4 .any (Rows.fnChainOfConcatenationSpec.pre6 enc Try.prog Try.f4 Rows.fnChainOfConcatenationRow.domain false) (Rows.fnChainOfConcatenationSpec.post enc Try.prog Try.f4 false true false false) := by
  refine returnsInHanded_of_change (C := Try.checked) own started (by kernel_rfl) Try.func4
    (ChangeSpec.witness6 (enc := enc) (C := Try.checked) false ⟨#[], #[.slice none 0 0, .slice none 0 0, .slice none 0 0], []⟩ 8 (by kernel_rfl) (by kernel_rfl) (by kernel_rfl) (by kernel_rfl)) ?_
  intro W base args ds gs before hval0 hW hcnd _
  have hval : ∀ (j : Nat) t v, Try.f4.params[j]? = some t → args[j]? = some v → Value.okWide Try.prog W .any base t v := hval0
  have hW' := hW
  obtain ⟨p, q, hA0, hV, rfl, hfz, hnd⟩ := hW
  have hA : DataW.TrodAll enc Try.prog W 0 (fun _ => true) true Try.f4.params.toList args.toList ds p := hA0
  rw [Try.params4] at hA hval
  obtain ⟨v0, vs0, d0, ds0, p0, q0, hargs, rfl, rfl, h0, r0⟩ := trodAll_cons hA
  obtain ⟨v1, vs1, d1, ds1, p1, q1, rfl, rfl, rfl, h1, r1⟩ := trodAll_cons r0
  obtain ⟨v2, vs2, d2, ds2, p2, q2, rfl, rfl, rfl, h2, r2⟩ := trodAll_cons r1
  obtain ⟨rfl, rfl, rfl⟩ := trodAll_nil r2
  obtain rfl : args = #[v0, v1, v2] := by cases args; simp_all
  obtain ⟨rfl, rfl⟩ := trodVars_none hV
  obtain ⟨a0, len0, cap0, rfl⟩ := okWide_slice Try.underlying22 (hval 0 22 v0 rfl rfl)
  have k0 := h0
  have lt0 : ∀ x ∈ p0, x.block < W.heap.size := by obtain ⟨m, hm⟩ := k0; exact DataW.trod_lt m _ _ _ hm
  obtain ⟨a1, len1, cap1, rfl⟩ := okWide_slice Try.underlying23 (hval 1 23 v1 rfl rfl)
  have k1 := h1
  have lt1 : ∀ x ∈ p1, x.block < W.heap.size := by obtain ⟨m, hm⟩ := k1; exact DataW.trod_lt m _ _ _ hm
  obtain ⟨a2, len2, cap2, rfl⟩ := okWide_slice Try.underlying23 (hval 2 23 v2 rfl rfl)
  have k2 := h2
  have lt2 : ∀ x ∈ p2, x.block < W.heap.size := by obtain ⟨m, hm⟩ := k2; exact DataW.trod_lt m _ _ _ hm
  have w1 : IsEnts W a1 len1 cap1 := ents_of h1
  have w2 : IsEnts W a2 len2 cap2 := ents_of h2
  clear hA0 hval0
  refine (walk a0 len0 cap0 a1 len1 cap1 a2 len2 cap2 W w1 w2).mono fun e W' ⟨he, bel⟩ => ?_
  subst he
  exact ⟨_, rfl, _, _, _, [], _, [], hW', trodAll_mk1 (shut_bool Try.underlying4 _), (trodAll_cons_mk (Below.trod laidOut (by kernel_rfl) (of_decide_eq_true (by kernel_rfl)) k0 bel lt0) (trodAll_cons_mk (Below.trod laidOut (by kernel_rfl) (of_decide_eq_true (by kernel_rfl)) k1 bel lt1) (trodAll_cons_mk (Below.trod laidOut (by kernel_rfl) (of_decide_eq_true (by kernel_rfl)) k2 bel lt2) trodAll_mk0))), rfl, bel.frame _, fun h => by cases h⟩

theorem over : Rows.fnChainOfConcatenationRow.holds Try.pinned (OpenSpec.ofChange Rows.fnChainOfConcatenationSpec) :=
  OpenClaim.holds_of_wide 4 Try.f4 rfl rfl rfl rfl rfl rfl rfl ⟨rfl, rfl, rfl, rfl, rfl⟩ rfl rfl rfl rfl rfl (by kernel_rfl) Try.func4 (by kernel_rfl)
    (of_decide_eq_true (by kernel_rfl)) (by unfold Func.isWrapper; first | (rw [if_pos (by decide +kernel)]; kernel_rfl) | (rw [if_neg (by decide +kernel)]; exact ⟨rfl, rfl⟩))
    (fun os started H enc _ => lifted os started H enc)
end Go.Proofs.Qxb6609495a.ConcatProof

namespace Go.Proofs.Qxb6609495a
/-- THE STATEMENT. -/
theorem chainOfConcatenation_proved : Rows.FnChainOfConcatenationSaid := ConcatProof.over
end Go.Proofs.Qxb6609495a
