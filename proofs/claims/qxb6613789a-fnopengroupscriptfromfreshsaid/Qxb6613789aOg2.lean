import Derived.Test.Qxb6613789aOg
import Derived.Deep.QuietTactic
import Derived.BigQuiet
namespace Go.Proofs.Qxb6613789a.Og
open Go.RowKit

def SomeBool (e : Ending) : Prop := ∃ r, e = .returned (.bool r)

set_option maxHeartbeats 400000 in
/-- zzBytes_FnOpenGroupScriptFromFresh: some bool; nothing turns. -/
theorem bytes_any (b off len c : Nat) (ss : Nat → ByteArray) (w : World) (hs : ∀ j, j < len → w.cell? ⟨b, off + j, none⟩ = some (.string (ss j))) :
    Calls Try.prog 21 #[.slice (some ⟨b, off, none⟩) len c] w fun e w' => SomeBool e ∧ w = w' := by
  by_cases hlen : len ≤ 1048576
  · go_enter Try.func21, Try.ntmps21
    go_wp2
    go_loop [3, 4] (fun n i => ∃ k : Nat, k ≤ len ∧ i = .int .i64 k ∧ ∃ z, n = .int .i64 z) (fun _ i => len - (intOf i).toNat)
    case atStart => exact ⟨0, Nat.zero_le _, rfl, _, rfl⟩
    case round =>
      obtain ⟨k, hk, rfl, z, rfl⟩ := hrel
      by_cases hlt : k < len
      · have hc := hs k hlt
        go_wp2
        · go_ret; exact ⟨⟨_, rfl⟩, rfl⟩
        · go_ret; exact ⟨⟨_, rfl⟩, rfl⟩
        · go_round
          case rel => exact ⟨k + 1, by omega, by go_num, _, rfl⟩
          case measure => simp [intOf]; omega
      · go_wp2
        go_ret; exact ⟨⟨_, rfl⟩, rfl⟩
  · go_enter Try.func21, Try.ntmps21
    go_wp2
    go_ret; exact ⟨⟨_, rfl⟩, rfl⟩

theorem bytes_empty (a : Option Addr) (c : Nat) (w : World) :
    Calls Try.prog 21 #[.slice a 0 c] w fun e w' => SomeBool e ∧ w = w' := by
  go_enter Try.func21, Try.ntmps21
  go_wp2
  refine wp_loop_rounds 1 ?_
  rw [rounds_succ]
  go_wp2
  go_ret; exact ⟨⟨_, rfl⟩, rfl⟩

def names (ss : Nat → ByteArray) (k : Nat) : List ByteArray := (List.range k).map ss
theorem names_length (ss : Nat → ByteArray) (k : Nat) : (names ss k).length = k := by simp [names]
theorem names_succ (ss : Nat → ByteArray) (k : Nat) : names ss (k + 1) = names ss k ++ [ss k] := by simp [names, List.range_succ]

/-- The parser at B holds the first k names. -/
def Holding (w : World) (B : Nat) (ss : Nat → ByteArray) (k : Nat) : Prop := ∃ aN aO cN cO, Inv w B (names ss k) aN aO cN cO

theorem open_at (w : World) (B : Nat) (ss : Nat → ByteArray) (k : Nat) (hI : Holding w B ss k) (hk : k ≤ 100000) :
    Calls Try.prog 35 #[.pointer (some ⟨B, 0, none⟩), .string (ss k)] w fun e w' => e = .returned (.int .i64 ((k : Int) + 1)) ∧ Holding w' B ss (k + 1) ∧ Below B w w' := by
  obtain ⟨aN, aO, cN, cO, hI⟩ := hI
  have h := openGroup_any w B (names ss k) (ss k) aN aO cN cO hI (by rw [names_length]; exact hk)
  rw [names_length] at h
  unfold Holding
  rw [names_succ]
  exact h

/-- The fourteen cells of a fresh parser. -/
def freshObj : Obj := .cells #[.string ⟨#[]⟩, .nilFunc, .nilFunc, .string ⟨#[]⟩, .int .i64 0, .bool false, .bool false, .bool false, .int .i64 0, .bool false, .slice none 0 0, .slice none 0 0, .bool false, .bool false] 82
theorem fresh_holds (w : World) (ss : Nat → ByteArray) : Holding (w.alloc freshObj) w.heap.size ss 0 := by
  refine ⟨none, none, 0, 0, ?_⟩
  constructor
  · simp [freshObj, names]
  · simp [freshObj]
  · simp [freshObj, names]
  · simp [freshObj]
  · exact World.ownsRow_nil _ _ _ _
  · exact World.ownsRow_nil _ _ _ _
  · simp

/-- What the parser holds behind the last name, as the walk asks for it. -/
theorem held_out {w : World} {B : Nat} {ss : Nat → ByteArray} {len : Nat} (h : Holding w B ss len) (hpos : 0 < len) :
    ∃ g1 g2 c1 c2, w.cell? ⟨B, 10, none⟩ = some (.slice (some ⟨g1, 0, none⟩) len c1) ∧ w.cell? ⟨B, 11, none⟩ = some (.slice (some ⟨g2, 0, none⟩) len c2) ∧
      (∀ j, j < len → w.cell? ⟨g1, j, none⟩ = some (.string (ss j))) ∧ (∀ j : Nat, j < len → w.cell? ⟨g2, j, none⟩ = some (.int .i64 ((j : Int) + 1))) := by
  obtain ⟨aN, aO, cN, cO, cn, _, co, _, on, oo, _⟩ := h
  rw [names_length] at cn co on oo
  obtain ⟨g1, c1, e1, _, _⟩ := on.form hpos
  obtain ⟨g2, c2, e2, _, _⟩ := oo.form hpos
  rw [e1] at cn on
  rw [e2] at co oo
  refine ⟨g1, g2, c1, c2, cn, co, fun j hj => ?_, fun j hj => ?_⟩
  · rw [on.cellAt j (by omega)]; simp [names, hj]
  · rw [oo.cellAt j (by omega)]; simp [nums, hj]

set_option maxRecDepth 100000 in
set_option maxHeartbeats 800000 in
theorem law_some (b off len c : Nat) (ss : Nat → ByteArray) (w : World) (hs : ∀ j, j < len → w.cell? ⟨b, off + j, none⟩ = some (.string (ss j))) (hb : b < w.heap.size) (hpos : 0 < len) :
    Calls Try.prog 5 #[.slice (some ⟨b, off, none⟩) len c] w fun e w' => e = .returned (.bool true) ∧ Below w.heap.size w w' := by
  go_enter Try.func5, Try.ntmps5
  go_wp2_with fail
  refine (bytes_any b off len c ss w hs).mono ?_
  rintro e w' ⟨⟨r, rfl⟩, rfl⟩
  by_cases hlen : len ≤ 65536
  · cases r
    · go_wp2
      go_ret
      exact ⟨rfl, Below.refl _ _⟩
    go_wp2
    go_loop [3, 4] (fun n i => ∃ k : Nat, k ≤ len ∧ i = .int .i64 k ∧ ∃ z, n = .int .i64 z) (fun _ i => len - (intOf i).toNat)
    case atStart => exact ⟨0, Nat.zero_le _, rfl, _, rfl⟩
    case round =>
      obtain ⟨k, hk, rfl, z, rfl⟩ := hrel
      by_cases hlt : k < len
      · have hc := hs k hlt
        go_wp2
        · go_ret; exact ⟨rfl, Below.refl _ _⟩
        · go_ret; exact ⟨rfl, Below.refl _ _⟩
        · go_round
          case rel => exact ⟨k + 1, by omega, by go_num, _, rfl⟩
          case measure => simp [intOf]; omega
      · go_wp2
        go_loopw [6] (fun i wr => ∃ k : Nat, k ≤ len ∧ i = .int .i64 k ∧ Holding wr w.heap.size ss k ∧ Below w.heap.size w wr) (fun i _ => len - (intOf i).toNat)
        case atStart => exact ⟨0, Nat.zero_le _, rfl, fresh_holds w ss, (Below.refl _ _).alloc (Nat.le_refl _) _⟩
        case round =>
          obtain ⟨k, hk, rfl, hH, hbel⟩ := hrel
          by_cases hlt : k < len
          · have hc : wr.cell? ⟨b, off + k, none⟩ = some (.string (ss k)) := (hbel.cell hb).trans (hs k hlt)
            go_wp2_with (first | (go_at_call 35; refine (open_at wr w.heap.size ss k hH (by omega)).mono ?_; rintro e w1 ⟨rfl, hH1, hbel1⟩) | go_in)
            go_roundw
            case rel => exact ⟨k + 1, by omega, by go_num, hH1, hbel.trans hbel1⟩
            case measure => simp [intOf]; omega
          · obtain rfl : k = len := by omega
            obtain ⟨g1, g2, c1, c2, x1, x2, y1, y2⟩ := held_out hH hpos
            obtain ⟨wo, rfl⟩ : ∃ wo : World, wo = wr := ⟨_, rfl⟩
            go_wp2
            go_loopw [9] (fun i wr => ∃ j : Nat, j ≤ k ∧ i = .int .i64 j ∧ ∃ q, wr = wo.drewN q) (fun i _ => k - (intOf i).toNat)
            case atStart => exact ⟨0, Nat.zero_le _, rfl, 0, rfl⟩
            case round =>
              obtain ⟨j, hj, rfl, q, rfl⟩ := hrel
              by_cases hlt : j < k
              · have hc : wo.cell? ⟨b, off + j, none⟩ = some (.string (ss j)) := (hbel.cell hb).trans (hs j hlt)
                have z1 := y1 j hlt
                have z2 := y2 j hlt
                go_wp2
                go_quiet (fail)
                go_wp2
                go_roundw
                case rel => exact ⟨j + 1, by omega, by go_num, _, rfl⟩
                case measure => simp [intOf]; omega
              · go_wp2
                go_ret
                exact ⟨rfl, below_drewN hbel _⟩
  · cases r
    · go_wp2
      go_ret
      exact ⟨rfl, Below.refl _ _⟩
    go_wp2
    go_ret
    exact ⟨rfl, Below.refl _ _⟩

set_option maxRecDepth 100000 in
set_option maxHeartbeats 800000 in
theorem law_empty (a : Option Addr) (c : Nat) (w : World) :
    Calls Try.prog 5 #[.slice a 0 c] w fun e w' => e = .returned (.bool true) ∧ Below w.heap.size w w' := by
  go_enter Try.func5, Try.ntmps5
  go_wp2_with fail
  refine (bytes_empty a c w).mono ?_
  rintro e w' ⟨⟨r, rfl⟩, rfl⟩
  cases r
  · go_wp2
    go_ret
    exact ⟨rfl, Below.refl _ _⟩
  go_wp2
  refine wp_loop_rounds 1 ?_
  rw [rounds_succ]
  go_wp2
  refine wp_loop_rounds 1 ?_
  rw [rounds_succ]
  go_wp2
  refine wp_loop_rounds 1 ?_
  rw [rounds_succ]
  go_wp2
  go_ret
  exact ⟨rfl, (Below.refl _ _).alloc (Nat.le_refl _) _⟩

end Go.Proofs.Qxb6613789a.Og
