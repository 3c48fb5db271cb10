/-
  The proof of 'Rows.FnLookBackOneSetPutInAnywhereSaid'.
-/
import Derived.Test.Qxb6613826aRows
import Derived.WalkKit
import Derived.ProofKit
import Derived.OpenShut
import Derived.ShutString
import Derived.ChangeOld
import Derived.Below
import Derived.Carry
import Derived.Deep.Matrix
import Derived.Test.Qxb6613826aLb6
namespace Go.Proofs.Qxb6613826a.PutProof
open Go.ChangeShapes Go.WideShapes Go.ChangeAt Go.RowKit Go.Deep
open Go.ChangeMaps (open_string shut_string)
set_option linter.unusedVariables false

theorem own : ownKnob Try.prog.godebug = none := by kernel_rfl
theorem laidOut : laidOutB Try.prog = true := by kernel_rfl

/-- What the walk is told of the slice of slices that came in. -/
def IsDays (w : World) (a : Option Addr) (len cap : Nat) : Prop := len ≤ cap ∧ (len = 0 ∨ ∃ b o V m x, a = some ⟨b, o, none⟩ ∧ Lb.DaysAt w (some ⟨b, o, none⟩) len V m x)

/-! ### STEP 1: the walk -/
theorem walk (a0 : Option Addr) (len0 cap0 : Nat) (a1 : Int) (a2 : Int) (w : World) (w0 : IsDays w a0 len0 cap0) :
    Calls Try.prog 4 #[.slice a0 len0 cap0, .int .i64 a1, .int .i64 a2] w fun e w' => e = .returned (.bool true) ∧ Below w.heap.size w w' := by
  obtain ⟨hc, h | ⟨b, o, V, m, x, rfl, hd⟩⟩ := w0
  · subst h
    exact Lb.put_any a0 0 cap0 (fun _ => .nilIface) (fun _ => 0) (fun _ _ => 0) a1 a2 w (.inl rfl)
  · exact Lb.put_any _ len0 cap0 V m x a1 a2 w hd

/-! ### THE ROW's STEP -/
set_option maxRecDepth 100000 in
theorem lifted (os : Os) (started : os.Started) (H : Type) (enc : TypeId × Value → H) :
    ReturnsInHanded {} Try.checked os 4 .any (Rows.fnLookBackOneSetPutInAnywhereSpec.pre6 enc Try.prog Try.f4 Rows.fnLookBackOneSetPutInAnywhereRow.domain false) (Rows.fnLookBackOneSetPutInAnywhereSpec.post enc Try.prog Try.f4 false true false false) := by
  refine returnsInHanded_of_change (C := Try.checked) own started (by kernel_rfl) Try.func4
    (ChangeSpec.witness6 (enc := enc) (C := Try.checked) false ⟨#[], #[.slice none 0 0, .int .i64 0, .int .i64 0], []⟩ 8 (by kernel_rfl) (by kernel_rfl) (by kernel_rfl) (by kernel_rfl)) ?_
  intro W base args ds gs before hval0 hW hcnd _
  have hval : ∀ (j : Nat) t v, Try.f4.params[j]? = some t → args[j]? = some v → Value.okWide Try.prog W .any base t v := hval0
  have hW' := hW
  obtain ⟨p, q, hA0, hV, rfl, hfz, hnd⟩ := hW
  have hA : DataW.TrodAll enc Try.prog W 0 (fun _ => true) true Try.f4.params.toList args.toList ds p := hA0
  rw [Try.params4] at hA hval
  obtain ⟨v0, vs0, d0, ds0, p0, q0, hargs, rfl, rfl, h0, r0⟩ := trodAll_cons hA
  obtain ⟨v1, vs1, d1, ds1, p1, q1, rfl, rfl, rfl, h1, r1⟩ := trodAll_cons r0
  obtain ⟨v2, vs2, d2, ds2, p2, q2, rfl, rfl, rfl, h2, r2⟩ := trodAll_cons r1
  obtain ⟨rfl, rfl, rfl⟩ := trodAll_nil r2
  obtain rfl : args = #[v0, v1, v2] := by cases args; simp_all
  obtain ⟨rfl, rfl⟩ := trodVars_none hV
  obtain ⟨a0, len0, cap0, rfl⟩ := okWide_slice Try.underlying22 (hval 0 22 v0 rfl rfl)
  have k0 := h0
  have lt0 : ∀ x ∈ p0, x.block < W.heap.size := by obtain ⟨m, hm⟩ := k0; exact DataW.trod_lt m _ _ _ hm
  have w0 : IsDays W a0 len0 cap0 := by
    obtain ⟨fuel, hf⟩ := h0
    rcases open_int_rows Try.underlying22 Try.underlying24 Try.underlying3 (by kernel_rfl) (by kernel_rfl) hf with ⟨hcs, _⟩ | ⟨x, l, c, A, L, C, Z, hcs, _, hl, _, _, hrow⟩
    · simp [Value.cells] at hcs
      obtain ⟨rfl, rfl, rfl⟩ := hcs
      exact ⟨Nat.le_refl _, .inl rfl⟩
    · simp [Value.cells] at hcs
      obtain ⟨rfl, rfl, rfl⟩ := hcs
      refine ⟨hl, ?_⟩
      by_cases hz0 : len0 = 0
      · exact .inl hz0
      right
      obtain ⟨b, o, spot⟩ := x
      have hspot : spot = none := by simpa [Addr.add] using World.cell?_spot (hrow 0 (by omega)).1
      subst hspot
      refine ⟨b, o, fun r => .slice (A r) (L r) (C r), L, fun r j => (Z r).getD j 0, rfl, .inr ⟨b, o, rfl, fun i hi => ?_⟩⟩
      obtain ⟨hc, hLC, _, hZ, _, hnone, hsome⟩ := hrow i (by omega)
      refine ⟨by rw [← Addr.add_lit]; exact hc, A i, C i, rfl, ?_⟩
      by_cases hLi : L i = 0
      · exact .inl hLi
      right
      cases hA : A i with
      | none => have := hnone hA; omega
      | some y =>
        obtain ⟨_, hcell⟩ := hsome y hA
        obtain ⟨b2, o2, spot2⟩ := y
        have hs2 : spot2 = none := by simpa [Addr.add] using World.cell?_spot (hcell 0 (by omega))
        subst hs2
        refine ⟨b2, o2, rfl, fun j hj => ?_⟩
        rw [← Addr.add_lit]
        exact hcell j (by omega)
  obtain ⟨a1, rfl, rfl, rfl, w1⟩ := open_int Try.underlying3 (hval 1 3 v1 rfl rfl) h1
  obtain ⟨a2, rfl, rfl, rfl, w2⟩ := open_int Try.underlying3 (hval 2 3 v2 rfl rfl) h2
  clear hA0 hval0
  refine (walk a0 len0 cap0 a1 a2 W w0).mono fun e W' ⟨he, bel⟩ => ?_
  subst he
  exact ⟨_, rfl, _, _, _, [], _, [], hW', trodAll_mk1 (shut_bool Try.underlying4 _), (trodAll_cons_mk (Below.trod laidOut (by kernel_rfl) (of_decide_eq_true (by kernel_rfl)) k0 bel lt0) (trodAll_cons_mk (shut_int Try.underlying3 w1) (trodAll_cons_mk (shut_int Try.underlying3 w2) trodAll_mk0))), rfl, bel.frame _, fun h => by cases h⟩

theorem over : Rows.fnLookBackOneSetPutInAnywhereRow.holds Try.pinned (OpenSpec.ofChange Rows.fnLookBackOneSetPutInAnywhereSpec) :=
  OpenClaim.holds_of_wide 4 Try.f4 rfl rfl rfl rfl rfl rfl rfl ⟨rfl, rfl, rfl, rfl, rfl⟩ rfl rfl rfl rfl rfl (by kernel_rfl) Try.func4 (by kernel_rfl)
    (of_decide_eq_true (by kernel_rfl)) (by unfold Func.isWrapper; first | (rw [if_pos (by decide +kernel)]; kernel_rfl) | (rw [if_neg (by decide +kernel)]; exact ⟨rfl, rfl⟩))
    (fun os started H enc _ => lifted os started H enc)
end Go.Proofs.Qxb6613826a.PutProof

namespace Go.Proofs.Qxb6613826a
/-- THE STATEMENT. -/
theorem lookBackPutIn_proved : Rows.FnLookBackOneSetPutInAnywhereSaid := PutProof.over
end Go.Proofs.Qxb6613826a
