/-
  PLAIN LAWS for the character sets: merging ranges, the bitmap's words, searching. No Go function is named here.
-/
import Derived.Laws.Entries
namespace Go.Proofs.Qxb6613789a.Cs

/-! ### The bitmap's words -/
/-- The word 1 << k. -/
def onebit (k : Nat) : Int := IntKind.u64.wrap (2 ^ k)
/-- Bit k of a word, as the Go text tests it. -/
def tb (x : Int) (k : Nat) : Bool := bits .and .u64 x (onebit k) != 0
/-- A word with bit k set. -/
def ob (x : Int) (k : Nat) : Int := bits .or .u64 x (onebit k)

theorem wrapu (n : Int) : IntKind.u64.wrap n = n % 18446744073709551616 := by
  simp [IntKind.wrap, IntKind.bits, IntKind.signed]

theorem ofInt_wrapu (n : Int) : BitVec.ofInt 64 (IntKind.u64.wrap n) = BitVec.ofInt 64 n := by
  rw [wrapu]
  apply BitVec.eq_of_toNat_eq
  simp

theorem ofInt_onebit (k : Nat) : BitVec.ofInt 64 (onebit k) = BitVec.twoPow 64 k := by
  unfold onebit
  rw [ofInt_wrapu]
  apply BitVec.eq_of_toNat_eq
  have e : ((2 : Int) ^ k) = ((2 ^ k : Nat) : Int) := by simp
  rw [e]
  simp only [BitVec.ofInt_natCast, BitVec.toNat_ofNat, BitVec.toNat_twoPow]

theorem wrapu_bv (b : BitVec 64) : IntKind.u64.wrap (b.toNat : Int) = (b.toNat : Int) := by
  rw [wrapu]
  have := b.isLt
  omega

theorem tb_eq (x : Int) (k : Nat) (hk : k < 64) : tb x k = (BitVec.ofInt 64 x).getLsbD k := by
  have h : bits .and .u64 x (onebit k) = (((BitVec.ofInt 64 x) &&& BitVec.twoPow 64 k).toNat : Int) := by
    have e : bits .and .u64 x (onebit k) = IntKind.u64.wrap (((BitVec.ofInt 64 x) &&& (BitVec.ofInt 64 (onebit k))).toNat : Int) := rfl
    rw [e, ofInt_onebit, wrapu_bv]
  unfold tb
  rw [h, BitVec.and_twoPow]
  by_cases hb : (BitVec.ofInt 64 x).getLsbD k
  · rw [if_pos hb, hb]
    have : (BitVec.twoPow 64 k).toNat = 2 ^ k := by rw [BitVec.toNat_twoPow]; exact Nat.mod_eq_of_lt (Nat.pow_lt_pow_right (by omega) hk)
    rw [this]
    have := Nat.pow_pos (n := k) (show 0 < 2 by omega)
    rw [bne_iff_ne]
    omega
  · rw [if_neg hb]
    simp at hb
    simp [hb]

theorem ob_eq (x : Int) (k : Nat) : BitVec.ofInt 64 (ob x k) = BitVec.ofInt 64 x ||| BitVec.twoPow 64 k := by
  have e : ob x k = IntKind.u64.wrap (((BitVec.ofInt 64 x) ||| (BitVec.ofInt 64 (onebit k))).toNat : Int) := rfl
  rw [e, ofInt_onebit, wrapu_bv]
  apply BitVec.eq_of_toNat_eq
  simp only [BitVec.ofInt_natCast, BitVec.toNat_ofNat]
  exact Nat.mod_eq_of_lt (BitVec.isLt _)

theorem tb_ob (x : Int) (k j : Nat) (hk : k < 64) (hj : j < 64) : tb (ob x k) j = (tb x j || decide (k = j)) := by
  rw [tb_eq _ _ hj, tb_eq _ _ hj, ob_eq, BitVec.getLsbD_or, BitVec.getLsbD_twoPow]
  simp [hk]

theorem tb_zero (j : Nat) (hj : j < 64) : tb 0 j = false := by
  rw [tb_eq _ _ hj]; simp

/-! ### Ranges -/
/-- c lies in one of the ranges. -/
def inR (rs : List (Int × Int)) (c : Int) : Prop := ∃ r ∈ rs, r.1 ≤ c ∧ c ≤ r.2
theorem inR_nil (c : Int) : ¬ inR [] c := by rintro ⟨r, h, _⟩; cases h
theorem inR_append (a b : List (Int × Int)) (c : Int) : inR (a ++ b) c ↔ inR a c ∨ inR b c := by
  unfold inR
  constructor
  · rintro ⟨r, h, k⟩
    rcases List.mem_append.1 h with h | h
    · exact .inl ⟨r, h, k⟩
    · exact .inr ⟨r, h, k⟩
  · rintro (⟨r, h, k⟩ | ⟨r, h, k⟩)
    · exact ⟨r, List.mem_append.2 (.inl h), k⟩
    · exact ⟨r, List.mem_append.2 (.inr h), k⟩
theorem inR_one (r : Int × Int) (c : Int) : inR [r] c ↔ r.1 ≤ c ∧ c ≤ r.2 := by
  unfold inR; constructor
  · rintro ⟨x, h, k⟩; simp at h; subst h; exact k
  · intro k; exact ⟨r, by simp, k⟩

/-- A range within the characters. -/
def Ok (r : Int × Int) : Prop := 0 ≤ r.1 ∧ r.1 ≤ 1114111 ∧ 0 ≤ r.2 ∧ r.2 ≤ 1114111

/-- One round of the merging loop. -/
def mstep (m : List (Int × Int)) (r : Int × Int) : List (Int × Int) :=
  if r.2 < r.1 then m
  else match m.getLast? with
    | none => m ++ [r]
    | some l => if r.1 ≤ l.2 + 1 then m.dropLast ++ [(l.1, max l.2 r.2)] else m ++ [r]
theorem mstep_skip {m : List (Int × Int)} {r : Int × Int} (h : r.2 < r.1) : mstep m r = m := by simp [mstep, h]
theorem mstep_first {r : Int × Int} (h : ¬ r.2 < r.1) : mstep [] r = [r] := by simp [mstep, h]
theorem mstep_join {m : List (Int × Int)} {l r : Int × Int} (h : ¬ r.2 < r.1) (k : r.1 ≤ l.2 + 1) : mstep (m ++ [l]) r = m ++ [(l.1, max l.2 r.2)] := by simp [mstep, h, k]
theorem mstep_next {m : List (Int × Int)} {l r : Int × Int} (h : ¬ r.2 < r.1) (k : ¬ r.1 ≤ l.2 + 1) : mstep (m ++ [l]) r = m ++ [l] ++ [r] := by simp [mstep, h, k]

/-- What is merged behind k rounds. -/
def mergeK (d : List (Int × Int)) (k : Nat) : List (Int × Int) := (d.take k).foldl mstep []
theorem mergeK_zero (d : List (Int × Int)) : mergeK d 0 = [] := rfl
theorem mergeK_succ (d : List (Int × Int)) (k : Nat) (hk : k < d.length) : mergeK d (k + 1) = mstep (mergeK d k) d[k] := by
  unfold mergeK
  rw [List.take_succ_eq_append_getElem hk, List.foldl_append]; rfl

/-- Ascending, neither touching nor overlapping, each within the characters and not empty. -/
def Sep (m : List (Int × Int)) : Prop := m.Pairwise (fun a b => a.2 + 1 < b.1) ∧ ∀ a ∈ m, a.1 ≤ a.2 ∧ Ok a

theorem snoc_cases (m : List (Int × Int)) : m = [] ∨ ∃ m' l, m = m' ++ [l] := by
  rcases List.eq_nil_or_concat m with h | ⟨m', l, h⟩
  · exact .inl h
  · exact .inr ⟨m', l, by simpa using h⟩

theorem mstep_sep {m : List (Int × Int)} {r : Int × Int} (hm : Sep m) (hr : Ok r) (hle : ∀ a ∈ m, a.1 ≤ r.1) : Sep (mstep m r) := by
  by_cases h : r.2 < r.1
  · rw [mstep_skip h]; exact hm
  rcases snoc_cases m with rfl | ⟨m', l, rfl⟩
  · rw [mstep_first h]
    exact ⟨by simp, by intro a ha; simp at ha; subst ha; exact ⟨by omega, hr⟩⟩
  · obtain ⟨hp, ha⟩ := hm
    rw [List.pairwise_append] at hp
    have hl := ha l (by simp)
    have hlr := hle l (by simp)
    unfold Ok at hr hl
    by_cases k : r.1 ≤ l.2 + 1
    · rw [mstep_join h k]
      refine ⟨?_, ?_⟩
      · rw [List.pairwise_append]
        refine ⟨hp.1, by simp, ?_⟩
        intro a ham b hb
        simp at hb; subst hb
        exact hp.2.2 a ham l (by simp)
      · intro a ham
        rcases List.mem_append.1 ham with hx | hx
        · exact ha a (List.mem_append.2 (.inl hx))
        · simp at hx; subst hx; unfold Ok; simp only; omega
    · rw [mstep_next h k]
      refine ⟨?_, ?_⟩
      · rw [List.pairwise_append]
        refine ⟨List.pairwise_append.2 hp, by simp, ?_⟩
        intro a ham b hb
        simp at hb; subst hb
        rcases List.mem_append.1 ham with hx | hx
        · have := hp.2.2 a hx l (by simp); omega
        · simp at hx; subst hx; omega
      · intro a ham
        rcases List.mem_append.1 ham with hx | hx
        · exact ha a hx
        · simp at hx; subst hx; unfold Ok; omega

theorem mstep_in {m : List (Int × Int)} {r : Int × Int} (hle : ∀ a ∈ m, a.1 ≤ r.1) (hm : ∀ a ∈ m, a.1 ≤ a.2) (c : Int) : inR (mstep m r) c ↔ inR m c ∨ (r.1 ≤ c ∧ c ≤ r.2) := by
  by_cases h : r.2 < r.1
  · rw [mstep_skip h]; constructor
    · exact .inl
    · rintro (h | h)
      · exact h
      · omega
  rcases snoc_cases m with rfl | ⟨m', l, rfl⟩
  · rw [mstep_first h, inR_one]; simp [inR_nil]
  · have hl := hle l (by simp)
    have hl2 := hm l (by simp)
    by_cases k : r.1 ≤ l.2 + 1
    · rw [mstep_join h k, inR_append, inR_append, inR_one, inR_one]
      simp only
      constructor
      · rintro (x | x)
        · exact .inl (.inl x)
        · by_cases hc : c ≤ l.2
          · exact .inl (.inr ⟨x.1, hc⟩)
          · exact .inr ⟨by omega, by omega⟩
      · rintro ((x | x) | x)
        · exact .inl x
        · exact .inr ⟨by omega, by omega⟩
        · exact .inr ⟨by omega, by omega⟩
    · rw [mstep_next h k, inR_append (m' ++ [l]), inR_one r]

theorem mstep_lo {m : List (Int × Int)} {r : Int × Int} (a : Int × Int) (ha : a ∈ mstep m r) : a.1 = r.1 ∨ ∃ b ∈ m, a.1 = b.1 := by
  by_cases h : r.2 < r.1
  · rw [mstep_skip h] at ha; exact .inr ⟨a, ha, rfl⟩
  rcases snoc_cases m with rfl | ⟨m', l, rfl⟩
  · rw [mstep_first h] at ha; simp at ha; subst ha; exact .inl rfl
  · by_cases k : r.1 ≤ l.2 + 1
    · rw [mstep_join h k] at ha
      rcases List.mem_append.1 ha with hx | hx
      · exact .inr ⟨a, List.mem_append.2 (.inl hx), rfl⟩
      · simp at hx; subst hx; exact .inr ⟨l, by simp, rfl⟩
    · rw [mstep_next h k] at ha
      rcases List.mem_append.1 ha with hx | hx
      · exact .inr ⟨a, hx, rfl⟩
      · simp at hx; subst hx; exact .inl rfl

/-- THE MERGING LOOP, behind k rounds over ranges that ascend by their first character. -/
theorem mergeK_all (d : List (Int × Int)) (hs : d.Pairwise (fun a b => a.1 ≤ b.1)) (hok : ∀ r ∈ d, Ok r) (k : Nat) (hk : k ≤ d.length) :
    Sep (mergeK d k) ∧ (∀ c, inR (mergeK d k) c ↔ inR (d.take k) c) ∧ ∀ a ∈ mergeK d k, ∃ b ∈ d.take k, a.1 = b.1 := by
  induction k with
  | zero => rw [mergeK_zero]; exact ⟨⟨by simp, by simp⟩, by simp, by simp⟩
  | succ k ih =>
    obtain ⟨i1, i2, i3⟩ := ih (by omega)
    have hk' : k < d.length := by omega
    have hle : ∀ a ∈ mergeK d k, a.1 ≤ (d[k]).1 := by
      intro a ha
      obtain ⟨b, hb, e⟩ := i3 a ha
      rw [e]
      obtain ⟨i, hi, rfl⟩ := List.getElem_of_mem hb
      rw [List.getElem_take]
      have hi' : i < k := by simp at hi; omega
      exact List.pairwise_iff_getElem.1 hs i k (by omega) hk' hi'
    rw [mergeK_succ d k hk', List.take_succ_eq_append_getElem hk']
    refine ⟨mstep_sep i1 (hok _ (List.getElem_mem _)) hle, fun c => ?_, fun a ha => ?_⟩
    · rw [mstep_in hle (fun a ha => (i1.2 a ha).1), inR_append, inR_one, i2 c]
    · rcases mstep_lo a ha with h | ⟨b, hb, h⟩
      · exact ⟨d[k], List.mem_append.2 (.inr (List.mem_singleton.2 rfl)), h⟩
      · obtain ⟨x, hx, e⟩ := i3 b hb
        exact ⟨x, List.mem_append.2 (.inl hx), h.trans e⟩

theorem mergeK_length (d : List (Int × Int)) (k : Nat) : (mergeK d k).length ≤ k := by
  induction k with
  | zero => simp [mergeK_zero]
  | succ k ih =>
    by_cases hk : k < d.length
    · rw [mergeK_succ d k hk]
      generalize mergeK d k = m at *
      by_cases h : (d[k]).2 < (d[k]).1
      · rw [mstep_skip h]; omega
      rcases snoc_cases m with rfl | ⟨m', l, rfl⟩
      · rw [mstep_first h]; simp
      · by_cases j : (d[k]).1 ≤ l.2 + 1
        · rw [mstep_join h j]; simp at *; omega
        · rw [mstep_next h j]; simp at *; omega
    · have : mergeK d (k + 1) = mergeK d k := by unfold mergeK; rw [List.take_of_length_le (by omega), List.take_of_length_le (by omega)]
      rw [this]; omega

/-! ### The bitmap -/
/-- The two words tell, of the characters below 128, those of m and those from a up to b. -/
def BMto (m : List (Int × Int)) (a b : Int) (x0 x1 : Int) : Prop :=
  (∀ j : Nat, j < 64 → (tb x0 j = true ↔ inR m (j : Int) ∨ (a ≤ (j : Int) ∧ (j : Int) < b))) ∧
  (∀ j : Nat, j < 64 → (tb x1 j = true ↔ inR m (64 + (j : Int)) ∨ (a ≤ 64 + (j : Int) ∧ 64 + (j : Int) < b)))
/-- .. those of m alone. -/
def BM (m : List (Int × Int)) (x0 x1 : Int) : Prop :=
  (∀ j : Nat, j < 64 → (tb x0 j = true ↔ inR m (j : Int))) ∧ (∀ j : Nat, j < 64 → (tb x1 j = true ↔ inR m (64 + (j : Int))))

theorem BM_nil : BM [] 0 0 := ⟨fun j hj => by rw [tb_zero j hj]; simp [inR_nil], fun j hj => by rw [tb_zero j hj]; simp [inR_nil]⟩
theorem BM_start {m : List (Int × Int)} {x0 x1 : Int} (h : BM m x0 x1) (a : Int) : BMto m a a x0 x1 :=
  ⟨fun j hj => by rw [h.1 j hj]; constructor
                  · exact .inl
                  · rintro (k | k)
                    · exact k
                    · omega,
   fun j hj => by rw [h.2 j hj]; constructor
                  · exact .inl
                  · rintro (k | k)
                    · exact k
                    · omega⟩
theorem BM_low {m : List (Int × Int)} {a c x0 x1 : Int} (h : BMto m a c x0 x1) (hac : a ≤ c) (h0 : 0 ≤ c) (h1 : c < 64) : BMto m a (c + 1) (ob x0 (c % 64).toNat) x1 := by
  have e : (c % 64).toNat = c.toNat := by omega
  rw [e]
  refine ⟨fun j hj => ?_, fun j hj => ?_⟩
  · rw [tb_ob x0 _ j (by omega) hj, Bool.or_eq_true, h.1 j hj, decide_eq_true_eq]
    constructor
    · rintro ((k | k) | k)
      · exact .inl k
      · exact .inr (by omega)
      · exact .inr (by omega)
    · rintro (k | k)
      · exact .inl (.inl k)
      · by_cases hj : (j : Int) = c
        · exact .inr (by omega)
        · exact .inl (.inr (by omega))
  · rw [h.2 j hj]
    constructor
    · rintro (k | k)
      · exact .inl k
      · exact .inr (by omega)
    · rintro (k | k)
      · exact .inl k
      · exact .inr (by omega)
theorem BM_high {m : List (Int × Int)} {a c x0 x1 : Int} (h : BMto m a c x0 x1) (hac : a ≤ c) (h0 : 64 ≤ c) (h1 : c < 128) : BMto m a (c + 1) x0 (ob x1 (c % 64).toNat) := by
  have e : (c % 64).toNat = c.toNat - 64 := by omega
  rw [e]
  refine ⟨fun j hj => ?_, fun j hj => ?_⟩
  · rw [h.1 j hj]
    constructor
    · rintro (k | k)
      · exact .inl k
      · exact .inr (by omega)
    · rintro (k | k)
      · exact .inl k
      · exact .inr (by omega)
  · rw [tb_ob x1 _ j (by omega) hj, Bool.or_eq_true, h.2 j hj, decide_eq_true_eq]
    constructor
    · rintro ((k | k) | k)
      · exact .inl k
      · exact .inr (by omega)
      · exact .inr (by omega)
    · rintro (k | k)
      · exact .inl (.inl k)
      · by_cases hj : 64 + (j : Int) = c
        · exact .inr (by omega)
        · exact .inl (.inr (by omega))
theorem BM_end {m : List (Int × Int)} {r : Int × Int} {c x0 x1 : Int} (h : BMto m r.1 c x0 x1) (hc : r.2 < c ∨ 128 ≤ c) (hc' : c ≤ r.2 + 1 ∨ c ≤ r.1) : BM (m ++ [r]) x0 x1 := by
  refine ⟨fun j hj => ?_, fun j hj => ?_⟩
  · rw [h.1 j hj, inR_append, inR_one]
    constructor
    · rintro (k | k)
      · exact .inl k
      · exact .inr (by omega)
    · rintro (k | k)
      · exact .inl k
      · exact .inr (by omega)
  · rw [h.2 j hj, inR_append, inR_one]
    constructor
    · rintro (k | k)
      · exact .inl k
      · exact .inr (by omega)
    · rintro (k | k)
      · exact .inl k
      · exact .inr (by omega)

/-! ### The search -/
/-- The range at place j. -/
def at' (m : List (Int × Int)) (j : Nat) : Int × Int := m.getD j (0, 0)
theorem at_get {m : List (Int × Int)} {j : Nat} (h : j < m.length) : at' m j = m[j] := by simp [at', h]
theorem sep_lt {m : List (Int × Int)} (h : Sep m) {i j : Nat} (hij : i < j) (hj : j < m.length) : (at' m i).2 + 1 < (at' m j).1 := by
  rw [at_get hj, at_get (by omega)]
  exact List.pairwise_iff_getElem.1 h.1 i j (by omega) hj hij
theorem sep_ok {m : List (Int × Int)} (h : Sep m) {j : Nat} (hj : j < m.length) : (at' m j).1 ≤ (at' m j).2 ∧ Ok (at' m j) := by
  rw [at_get hj]; exact h.2 _ (List.getElem_mem hj)
theorem inR_at {m : List (Int × Int)} {c : Int} : inR m c ↔ ∃ j, j < m.length ∧ (at' m j).1 ≤ c ∧ c ≤ (at' m j).2 := by
  constructor
  · rintro ⟨r, hr, k⟩
    obtain ⟨j, hj, rfl⟩ := List.getElem_of_mem hr
    exact ⟨j, hj, by rw [at_get hj]; exact k⟩
  · rintro ⟨j, hj, k⟩
    rw [at_get hj] at k
    exact ⟨_, List.getElem_mem hj, k⟩
/-- What is left to be searched: the places from a on, n of them. -/
def Left (m : List (Int × Int)) (c : Int) (a n : Nat) : Prop := a + n ≤ m.length ∧ (∀ j, j < a → (at' m j).2 < c) ∧ ∀ j, a + n ≤ j → j < m.length → c < (at' m j).1
theorem left_start (m : List (Int × Int)) (c : Int) : Left m c 0 m.length := ⟨by omega, fun j hj => by omega, fun j h1 h2 => by omega⟩
theorem left_down {m : List (Int × Int)} {c : Int} {a n i : Nat} (hs : Sep m) (h : Left m c a n) (hi : i < n) (hc : c < (at' m (a + i)).1) : Left m c a i := by
  obtain ⟨h1, h2, h3⟩ := h
  refine ⟨by omega, h2, fun j j1 j2 => ?_⟩
  by_cases e : j = a + i
  · rw [e]; exact hc
  · have := sep_lt hs (show a + i < j by omega) j2
    have := (sep_ok hs (show a + i < m.length by omega)).1
    omega
theorem left_up {m : List (Int × Int)} {c : Int} {a n i : Nat} (hs : Sep m) (h : Left m c a n) (hi : i < n) (hc : (at' m (a + i)).2 < c) : Left m c (a + (i + 1)) (n - (i + 1)) := by
  obtain ⟨h1, h2, h3⟩ := h
  refine ⟨by omega, fun j hj => ?_, fun j j1 j2 => h3 j (by omega) j2⟩
  by_cases e : j = a + i
  · rw [e]; exact hc
  · have := sep_lt hs (show j < a + i by omega) (by omega)
    have := (sep_ok hs (show a + i < m.length by omega)).1
    omega
theorem left_hit {m : List (Int × Int)} {c : Int} {a n i : Nat} (h : Left m c a n) (hi : i < n) (h1 : ¬ c < (at' m (a + i)).1) (h2 : ¬ (at' m (a + i)).2 < c) : inR m c :=
  inR_at.2 ⟨a + i, by have := h.1; omega, by omega, by omega⟩
theorem left_none {m : List (Int × Int)} {c : Int} {a : Nat} (h : Left m c a 0) : ¬ inR m c := by
  intro hc
  obtain ⟨j, hj, k⟩ := inR_at.1 hc
  obtain ⟨_, h2, h3⟩ := h
  by_cases e : j < a
  · have := h2 j e; omega
  · have := h3 j (by omega) hj; omega

end Go.Proofs.Qxb6613789a.Cs
