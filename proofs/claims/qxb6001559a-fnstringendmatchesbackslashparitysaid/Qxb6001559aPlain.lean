import Derived.Below
namespace Go.Proofs.Qxb6001559a

/-- How many backslashes stand in a row right ahead of place q, counted backwards and not past i. -/
def bs (f : Nat → Int) (i : Nat) : Nat → Nat
  | 0 => 0
  | q + 1 => if q ≤ i then 0 else if f q = 92 then bs f i q + 1 else 0

theorem bs_start (f : Nat → Int) (i : Nat) : bs f i (i + 1) = 0 := by simp [bs]
theorem bs_hit {f : Nat → Int} {i q : Nat} (h : i < q) (h1 : f q = 92) : bs f i (q + 1) = bs f i q + 1 := by
  simp [bs, h1]
  omega
theorem bs_miss {f : Nat → Int} {i q : Nat} (h1 : f q ≠ 92) : bs f i (q + 1) = 0 := by
  simp [bs, h1]
theorem bs_le (f : Nat → Int) (i : Nat) : ∀ q, bs f i q ≤ q
  | 0 => Nat.le_refl _
  | q + 1 => by
    have := bs_le f i q
    simp only [bs]
    split
    · omega
    · split <;> omega

/-- q is the first quote behind i ahead of which an even run of backslashes stands. -/
structure Closing (f : Nat → Int) (i n q : Nat) : Prop where
  lo : i < q
  hi : q < n
  quote : f q = 34
  even : bs f i q % 2 = 0
  first : ∀ j, i < j → j < q → f j = 34 → bs f i j % 2 = 1

/-- None up to k. -/
def NoneTo (f : Nat → Int) (i k : Nat) : Prop := ∀ j, i < j → j < k → f j = 34 → bs f i j % 2 = 1

theorem noneTo_start (f : Nat → Int) (i : Nat) : NoneTo f i (i + 1) := fun j h1 h2 => by omega
theorem noneTo_other {f : Nat → Int} {i k : Nat} (h : NoneTo f i k) (hk : f k ≠ 34) : NoneTo f i (k + 1) := fun j h1 h2 h3 => by
  by_cases e : j = k
  · subst e; exact absurd h3 hk
  · exact h j h1 (by omega) h3
theorem noneTo_odd {f : Nat → Int} {i k : Nat} (h : NoneTo f i k) (hk : bs f i k % 2 ≠ 0) : NoneTo f i (k + 1) := fun j h1 h2 h3 => by
  by_cases e : j = k
  · subst e; omega
  · exact h j h1 (by omega) h3
theorem closing_of {f : Nat → Int} {i n k : Nat} (h : NoneTo f i k) (h1 : i < k) (h2 : k < n) (h3 : f k = 34) (h4 : bs f i k % 2 = 0) : Closing f i n k := ⟨h1, h2, h3, h4, h⟩

/-- The counting loop: m backslashes have been met, p = k - 1 - m is looked at next. -/
structure Count (f : Nat → Int) (i k m : Nat) : Prop where
  room : i + 1 + m ≤ k
  sum : m + bs f i (k - m) = bs f i k

theorem count_start {f : Nat → Int} {i k : Nat} (h : i < k) : Count f i k 0 := ⟨by omega, by simp⟩
theorem count_next {f : Nat → Int} {i k m : Nat} (h : Count f i k m) (h1 : i + 1 + m < k) (h2 : f (k - 1 - m) = 92) : Count f i k (m + 1) := by
  refine ⟨by omega, ?_⟩
  have e : k - m = (k - 1 - m) + 1 := by omega
  have h3 := h.sum
  rw [e, bs_hit (by omega) h2] at h3
  rw [show k - (m + 1) = k - 1 - m from by omega]
  omega
theorem count_end {f : Nat → Int} {i k m : Nat} (h : Count f i k m) (h1 : i + 1 + m = k) : bs f i k = m := by
  have h3 := h.sum
  rw [show k - m = i + 1 from by omega, bs_start] at h3
  omega
theorem count_stop {f : Nat → Int} {i k m : Nat} (h : Count f i k m) (h2 : f (k - 1 - m) ≠ 92) (h1 : i + 1 + m ≤ k) : bs f i k = m := by
  have h3 := h.sum
  rw [show k - m = (k - 1 - m) + 1 from by omega, bs_miss h2] at h3
  omega

/-- The scanner stands at j, on no escaped byte. -/
structure Head (f : Nat → Int) (i q j : Nat) : Prop where
  lo : i < j
  hi : j ≤ q
  even : bs f i j % 2 = 0

theorem head_start {f : Nat → Int} {i n q : Nat} (c : Closing f i n q) : Head f i q (i + 1) := ⟨by omega, c.lo, by rw [bs_start]⟩
theorem head_esc {f : Nat → Int} {i n q j : Nat} (c : Closing f i n q) (h : Head f i q j) (hj : f j = 92) : Head f i q (j + 2) := by
  have h1 := bs_hit h.lo hj
  have hq := c.quote
  have hev := c.even
  have hne : j ≠ q := fun e => by subst e; omega
  have hne1 : j + 1 ≠ q := fun e => by subst e; have := h.even; omega
  have := h.hi
  refine ⟨by have := h.lo; omega, by omega, ?_⟩
  by_cases e : f (j + 1) = 92
  · rw [show j + 2 = (j + 1) + 1 from rfl, bs_hit (by have := h.lo; omega) e, h1]
    have := h.even
    omega
  · rw [show j + 2 = (j + 1) + 1 from rfl, bs_miss e]
theorem head_plain {f : Nat → Int} {i n q j : Nat} (c : Closing f i n q) (h : Head f i q j) (hj : f j ≠ 92) (hj2 : f j ≠ 34) : Head f i q (j + 1) := by
  have hq := c.quote
  have hne : j ≠ q := fun e => by subst e; omega
  have := h.hi
  have := h.lo
  exact ⟨by omega, by omega, by rw [bs_miss hj]⟩
theorem head_quote {f : Nat → Int} {i n q j : Nat} (c : Closing f i n q) (h : Head f i q j) (hj : f j = 34) : j = q := by
  have h1 := h.hi
  by_cases e : j = q
  · exact e
  · have h2 := c.first j h.lo (by omega) hj
    have h3 := h.even
    omega
end Go.Proofs.Qxb6001559a
