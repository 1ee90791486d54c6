/- The plain part: which numbers of members fill a complete tree of degree d; the least odd degree. No Go in sight. By an AI agent. -/
namespace Go.Proofs.YbulkbqdmFmt

def pw (d : Int) : Nat → Int
  | 0 => 1
  | j + 1 => pw d j * d
def gs (d : Int) : Nat → Int
  | 0 => 1
  | j + 1 => gs d j + pw d (j + 1)

/-- n members fill a complete tree of degree d, n at most 64. -/
def fillsB (d n : Int) : Bool := decide (n ≤ 64) && (n == 1 || n == 1 + d || n == 1 + d + d * d || n == 1 + d + d * d + d * d * d)

theorem gs1 (d : Int) : gs d 1 = 1 + d := by simp [gs, pw]
theorem gs2 (d : Int) : gs d 2 = 1 + d + d * d := by simp [gs, pw]
theorem gs3 (d : Int) : gs d 3 = 1 + d + d * d + d * d * d := by simp [gs, pw]

theorem pw_pos (d : Int) (hd : 3 ≤ d) : ∀ j, 1 ≤ pw d j
  | 0 => by simp [pw]
  | j + 1 => by
    have := pw_pos d hd j
    have h2 : 1 * d ≤ pw d j * d := Int.mul_le_mul_of_nonneg_right this (by omega)
    show 1 ≤ pw d j * d
    omega

theorem pw_step (d : Int) (hd : 3 ≤ d) (j : Nat) : 3 * pw d j ≤ pw d (j + 1) := by
  have := pw_pos d hd j
  have h2 : pw d j * 3 ≤ pw d j * d := Int.mul_le_mul_of_nonneg_left hd (by omega)
  show 3 * pw d j ≤ pw d j * d
  omega

theorem gs_step (d : Int) (hd : 3 ≤ d) (j : Nat) : gs d j + 3 ≤ gs d (j + 1) := by
  have h1 := pw_step d hd j
  have h2 := pw_pos d hd j
  show gs d j + 3 ≤ gs d j + pw d (j + 1)
  omega

theorem gs_mono (d : Int) (hd : 3 ≤ d) (i : Nat) : ∀ k, gs d i ≤ gs d (i + k)
  | 0 => Int.le_refl _
  | k + 1 => by
    have h1 := gs_mono d hd i k
    have h2 := gs_step d hd (i + k)
    show gs d i ≤ gs d (i + k + 1)
    omega

theorem gs_pos (d : Int) (hd : 3 ≤ d) (i : Nat) : 1 ≤ gs d i := by
  have h1 := gs_mono d hd 0 i
  have h2 : gs d 0 = 1 := rfl
  rw [Nat.zero_add] at h1
  omega

theorem gs_four (d : Int) (hd : 3 ≤ d) : 64 < gs d 4 := by
  have a0 : pw d 0 = 1 := rfl
  have a1 := pw_step d hd 0
  have a2 := pw_step d hd 1
  have a3 := pw_step d hd 2
  have a4 := pw_step d hd 3
  have g0 : gs d 0 = 1 := rfl
  have g1 : gs d 1 = gs d 0 + pw d 1 := rfl
  have g2 : gs d 2 = gs d 1 + pw d 2 := rfl
  have g3 : gs d 3 = gs d 2 + pw d 3 := rfl
  have g4 : gs d 4 = gs d 3 + pw d 4 := rfl
  simp only [Nat.zero_add, Nat.reduceAdd] at a1 a2 a3 a4
  omega

/-- Which numbers fill: by the sums. -/
theorem fills_iff (d n : Int) (hd : 3 ≤ d) : fillsB d n = true ↔ n ≤ 64 ∧ ∃ i, gs d i = n := by
  have e0 : gs d 0 = 1 := rfl
  unfold fillsB
  rw [← gs3, ← gs2, ← gs1]
  simp only [Bool.and_eq_true, decide_eq_true_eq, Bool.or_eq_true, beq_iff_eq]
  constructor
  · rintro ⟨h, ((h1 | h1) | h1) | h1⟩
    · exact ⟨h, 0, by omega⟩
    · exact ⟨h, 1, by omega⟩
    · exact ⟨h, 2, by omega⟩
    · exact ⟨h, 3, by omega⟩
  · rintro ⟨h, i, hi⟩
    refine ⟨h, ?_⟩
    match i, hi with
    | 0, hi => exact .inl (.inl (.inl (by omega)))
    | 1, hi => exact .inl (.inl (.inr (by omega)))
    | 2, hi => exact .inl (.inr (by omega))
    | 3, hi => exact .inr (by omega)
    | k + 4, hi =>
      have h1 := gs_four d hd
      have h2 := gs_mono d hd 4 k
      rw [Nat.add_comm 4 k] at h2
      omega

/-- The sizes that treeSizes lists, after j rounds. -/
def sizesTo (d : Int) : Nat → List Int
  | 0 => [1]
  | j + 1 => sizesTo d j ++ [gs d (j + 1)]

theorem sizesTo_length (d : Int) : ∀ j, (sizesTo d j).length = j + 1
  | 0 => rfl
  | j + 1 => by simp [sizesTo, sizesTo_length d j]

theorem sizesTo_last (d : Int) : ∀ j, (sizesTo d j)[j]? = some (gs d j)
  | 0 => rfl
  | j + 1 => by
    show (sizesTo d j ++ [gs d (j + 1)])[j + 1]? = _
    rw [List.getElem?_append_right (by rw [sizesTo_length]; omega), sizesTo_length]
    simp

theorem mem_sizesTo (d n : Int) : ∀ j, n ∈ sizesTo d j ↔ ∃ i, i ≤ j ∧ gs d i = n
  | 0 => by
    simp only [sizesTo, List.mem_singleton]
    constructor
    · intro h; exact ⟨0, Nat.le_refl _, h.symm⟩
    · rintro ⟨i, hi, h⟩
      have : i = 0 := by omega
      subst this
      exact h.symm
  | j + 1 => by
    simp only [sizesTo, List.mem_append, List.mem_singleton, mem_sizesTo d n j]
    constructor
    · rintro (⟨i, hi, h⟩ | h)
      · exact ⟨i, by omega, h⟩
      · exact ⟨j + 1, Nat.le_refl _, h.symm⟩
    · rintro ⟨i, hi, h⟩
      by_cases e : i = j + 1
      · subst e; exact .inr h.symm
      · exact .inl ⟨i, by omega, h⟩

/-- At the loop's end the list holds just the numbers that fill. -/
theorem mem_sizes (d n : Int) (hd : 3 ≤ d) (j : Nat) (h1 : gs d j ≤ 64) (h2 : 64 < gs d (j + 1)) : n ∈ sizesTo d j ↔ fillsB d n = true := by
  rw [mem_sizesTo, fills_iff d n hd]
  constructor
  · rintro ⟨i, hi, rfl⟩
    have := gs_mono d hd i (j - i)
    rw [show i + (j - i) = j by omega] at this
    exact ⟨by omega, i, rfl⟩
  · rintro ⟨hn, i, rfl⟩
    refine ⟨i, ?_, rfl⟩
    by_cases e : i ≤ j
    · exact e
    · have := gs_mono d hd (j + 1) (i - (j + 1))
      rw [show j + 1 + (i - (j + 1)) = i by omega] at this
      omega

/-- The least odd degree from d on. -/
def srch (n : Int) : Nat → Int → Option Int
  | 0, _ => none
  | f + 1, d => if d ≤ n - 1 ∨ d = 3 then (if fillsB d n then some d else srch n f (d + 2)) else none

def least (n : Int) : Option Int := srch n 600 3

/-- The law's own table. -/
def table (n : Int) : Option Int :=
  if n = 1 ∨ n = 4 ∨ n = 13 ∨ n = 40 then some 3
  else if n = 6 ∨ n = 31 then some 5
  else if n = 8 ∨ n = 57 then some 7
  else if 10 ≤ n ∧ n ≤ 64 ∧ n % 2 = 0 then some (n - 1)
  else none

theorem srch_none (n : Int) (h : ∀ d, 3 ≤ d → fillsB d n = false) : ∀ f d, 3 ≤ d → srch n f d = none
  | 0, _, _ => rfl
  | f + 1, d, hd => by
    unfold srch
    rw [h d hd]
    split
    · simpa using srch_none n h f (d + 2) (by omega)
    · rfl

theorem least_table_mid : ∀ k : Nat, k < 65 → least (k : Int) = table (k : Int) := by decide +kernel

theorem least_table (n : Int) : least n = table n := by
  by_cases h : 0 ≤ n ∧ n < 65
  · have := least_table_mid n.toNat (by omega)
    rwa [Int.toNat_of_nonneg h.1] at this
  · have hno : ∀ d, 3 ≤ d → fillsB d n = false := by
      intro d hd
      cases hf : fillsB d n
      · rfl
      · obtain ⟨h1, i, hi⟩ := (fills_iff d n hd).1 hf
        have := gs_pos d hd i
        omega
    rw [least, srch_none n hno 600 3 (by omega)]
    unfold table
    rw [if_neg (by omega), if_neg (by omega), if_neg (by omega), if_neg (by omega)]

theorem srch_odd (n : Int) : ∀ f d x, srch n f d = some x → d % 2 = 1 → 3 ≤ d → x % 2 = 1 ∧ 3 ≤ x
  | 0, _, _, h, _, _ => by cases h
  | f + 1, d, x, h, ho, h3 => by
    unfold srch at h
    split at h
    · split at h
      · cases h; exact ⟨ho, h3⟩
      · exact srch_odd n f (d + 2) x h (by omega) (by omega)
    · cases h
end Go.Proofs.YbulkbqdmFmt
