/-
  The plain mathematics of the seat b6003775a: line terminators of a list of bytes (as integers). No Go in sight.
-/
namespace Go.Proofs.Qxb6003775a.Pl

/-- the byte at place j (0 behind the end) -/
def b (xs : List Int) (j : Nat) : Int := xs[j]?.getD 0

theorem b_end {xs : List Int} {j : Nat} (h : xs.length ≤ j) : b xs j = 0 := by
  unfold b; rw [List.getElem?_eq_none h]; rfl
theorem b_drop (xs : List Int) (k j : Nat) : b (xs.drop k) j = b xs (k + j) := by
  unfold b; rw [List.getElem?_drop]
theorem b_take {xs : List Int} {k j : Nat} (h : j < k) : b (xs.take k) j = b xs j := by
  unfold b; rw [List.getElem?_take_of_lt h]

/-- the length of the terminator that starts at j, or 0 -/
def tl (xs : List Int) (lone : Bool) (j : Nat) : Int :=
  if b xs j = 10 then 1 else if b xs j = 13 then (if b xs (j + 1) = 10 then 2 else if lone = true then 1 else 0) else 0

theorem tl_cases (xs : List Int) (lone : Bool) (j : Nat) :
    (b xs j = 10 ∧ tl xs lone j = 1) ∨ (b xs j = 13 ∧ b xs (j + 1) = 10 ∧ tl xs lone j = 2) ∨ (b xs j = 13 ∧ b xs (j + 1) ≠ 10 ∧ lone = true ∧ tl xs lone j = 1) ∨
    (b xs j = 13 ∧ b xs (j + 1) ≠ 10 ∧ lone = false ∧ tl xs lone j = 0) ∨ (b xs j ≠ 10 ∧ b xs j ≠ 13 ∧ tl xs lone j = 0) := by
  unfold tl
  by_cases h1 : b xs j = 10
  · simp [h1]
  · by_cases h2 : b xs j = 13
    · by_cases h3 : b xs (j + 1) = 10
      · simp [h2, h3]
      · cases lone <;> simp [h2, h3]
    · simp [h1, h2]

/-- the first place of c, or -1 -/
def IsIdx (xs : List Int) (c r : Int) : Prop :=
  (r = -1 ∧ ∀ j, j < xs.length → b xs j ≠ c) ∨ ∃ j : Nat, j < xs.length ∧ r = j ∧ b xs j = c ∧ ∀ i, i < j → b xs i ≠ c

/-- the first terminator's place and length, or -1 and 0 -/
def FT (xs : List Int) (lone : Bool) (i k : Int) : Prop :=
  (i = -1 ∧ k = 0 ∧ ∀ j, j < xs.length → tl xs lone j = 0) ∨ ∃ j : Nat, j < xs.length ∧ i = j ∧ k = tl xs lone j ∧ 0 < tl xs lone j ∧ ∀ i, i < j → tl xs lone i = 0

theorem FT_unique {xs : List Int} {lone : Bool} {i k i' k' : Int} (h : FT xs lone i k) (h' : FT xs lone i' k') : i = i' ∧ k = k' := by
  rcases h with ⟨rfl, rfl, h⟩ | ⟨j, hj, rfl, rfl, hp, h⟩ <;> rcases h' with ⟨rfl, rfl, h'⟩ | ⟨j', hj', rfl, rfl, hp', h'⟩
  · exact ⟨rfl, rfl⟩
  · have := h j' hj'; omega
  · have := h' j hj; omega
  · have e : j = j' := by
      rcases Nat.lt_trichotomy j j' with hl | hl | hl
      · have := h' j hl; omega
      · exact hl
      · have := h j' hl; omega
    subst e; exact ⟨rfl, rfl⟩

/-- a carriage return that no newline follows, at j -/
def lcr (xs : List Int) (j : Nat) : Prop := b xs j = 13 ∧ b xs (j + 1) ≠ 10

/-! ### indexEOL without lone CR -/
theorem eol_none {xs : List Int} (h : IsIdx xs 10 (-1)) : FT xs false (-1) 0 := by
  refine .inl ⟨rfl, rfl, fun j hj => ?_⟩
  rcases h with ⟨_, h⟩ | ⟨j', _, e, _⟩
  · have h1 := h j hj
    have h2 : b xs (j + 1) ≠ 10 := by
      by_cases hl : j + 1 < xs.length
      · exact h _ hl
      · rw [b_end (by omega)]; omega
    rcases tl_cases xs false j with ⟨_, _⟩ | ⟨_, _, _⟩ | ⟨_, _, _, _⟩ | ⟨_, _, _, _⟩ | ⟨_, _, _⟩ <;> simp_all
  · omega
theorem eol_crlf {xs : List Int} {r : Nat} (h : IsIdx xs 10 r) (h0 : 0 < r) (hc : b xs (r - 1) = 13) : FT xs false ((r : Int) - 1) 2 := by
  rcases h with ⟨e, _⟩ | ⟨j, hj, e, hb, h⟩
  · omega
  · obtain rfl : r = j := by omega
    have e1 : r - 1 + 1 = r := by omega
    refine .inr ⟨r - 1, by omega, by omega, ?_, ?_, fun i hi => ?_⟩
    · unfold tl; rw [e1, hb, hc]; simp
    · unfold tl; rw [e1, hb, hc]; simp
    · have h1 := h i (by omega)
      have h2 := h (i + 1) (by omega)
      rcases tl_cases xs false i with ⟨_, _⟩ | ⟨_, _, _⟩ | ⟨_, _, _, _⟩ | ⟨_, _, _, _⟩ | ⟨_, _, _⟩ <;> simp_all
theorem eol_lf {xs : List Int} {r : Nat} (h : IsIdx xs 10 r) (hc : r = 0 ∨ b xs (r - 1) ≠ 13) : FT xs false (r : Int) 1 := by
  rcases h with ⟨e, _⟩ | ⟨j, hj, e, hb, h⟩
  · omega
  · obtain rfl : r = j := by omega
    refine .inr ⟨r, hj, rfl, ?_, ?_, fun i hi => ?_⟩
    · unfold tl; rw [hb]; simp
    · unfold tl; rw [hb]; simp
    · have h1 := h i (by omega)
      by_cases hi2 : i + 1 = r
      · have : b xs i ≠ 13 := by
          rcases hc with hc | hc
          · omega
          · have : r - 1 = i := by omega
            rw [this] at hc; exact hc
        rcases tl_cases xs false i with ⟨_, _⟩ | ⟨_, _, _⟩ | ⟨_, _, _, _⟩ | ⟨_, _, _, _⟩ | ⟨_, _, _⟩ <;> simp_all
      · have h2 := h (i + 1) (by omega)
        rcases tl_cases xs false i with ⟨_, _⟩ | ⟨_, _, _⟩ | ⟨_, _, _, _⟩ | ⟨_, _, _, _⟩ | ⟨_, _, _⟩ <;> simp_all

/-! ### indexEOLOrCR -/
/-- no terminator's byte before t -/
def clr (xs : List Int) (t : Nat) : Prop := ∀ j, j < t → b xs j ≠ 10 ∧ b xs j ≠ 13
theorem tl_clear {xs : List Int} {lone : Bool} {j : Nat} (h : b xs j ≠ 10 ∧ b xs j ≠ 13) : tl xs lone j = 0 := by
  unfold tl; rw [if_neg h.1, if_neg h.2]
theorem ft_end {xs : List Int} {lone : Bool} (h : clr xs xs.length) : FT xs lone (-1) 0 :=
  .inl ⟨rfl, rfl, fun j hj => tl_clear (h j hj)⟩
theorem ft_crlf {xs : List Int} {lone : Bool} {t : Nat} (h : clr xs t) (hl : t < xs.length) (h1 : b xs t = 13) (h2 : b xs (t + 1) = 10) : FT xs lone t 2 := by
  refine .inr ⟨t, hl, rfl, ?_, ?_, fun i hi => tl_clear (h i hi)⟩ <;> (unfold tl; rw [h1, h2]; simp)
theorem ft_cr {xs : List Int} {t : Nat} (h : clr xs t) (hl : t < xs.length) (h1 : b xs t = 13) (h2 : b xs (t + 1) ≠ 10) : FT xs true t 1 := by
  refine .inr ⟨t, hl, rfl, ?_, ?_, fun i hi => tl_clear (h i hi)⟩ <;> (unfold tl; rw [h1]; simp [h2])
theorem ft_lf {xs : List Int} {lone : Bool} {t : Nat} (h : clr xs t) (hl : t < xs.length) (h1 : b xs t = 10) : FT xs lone t 1 := by
  refine .inr ⟨t, hl, rfl, ?_, ?_, fun i hi => tl_clear (h i hi)⟩ <;> (unfold tl; rw [h1]; simp)

/-! ### the law's own search -/
theorem ft_of_search {xs : List Int} {lone : Bool} {t : Nat} (h : ∀ j, j < t → tl xs lone j = 0) (hl : t < xs.length) (h1 : 0 < tl xs lone t) : FT xs lone t (tl xs lone t) :=
  .inr ⟨t, hl, rfl, rfl, h1, h⟩
theorem ft_of_none {xs : List Int} {lone : Bool} (h : ∀ j, j < xs.length → tl xs lone j = 0) : FT xs lone (-1) 0 := .inl ⟨rfl, rfl, h⟩

/-! ### LineLen -/
/-- the length of the first line -/
def LL (xs : List Int) (lone : Bool) (n : Int) : Prop := ∃ i k, FT xs lone i k ∧ ((0 ≤ i ∧ n = i + k) ∨ (i < 0 ∧ n = xs.length))
theorem tl_le {xs : List Int} {lone : Bool} {j : Nat} (h : j < xs.length) : (j : Int) + tl xs lone j ≤ xs.length := by
  rcases tl_cases xs lone j with ⟨_, e⟩ | ⟨_, h2, e⟩ | ⟨_, _, _, e⟩ | ⟨_, _, _, e⟩ | ⟨_, _, e⟩ <;> rw [e]
  · omega
  · by_cases hl : j + 1 < xs.length
    · omega
    · rw [b_end (by omega)] at h2; omega
  all_goals omega
theorem LL_bounds {xs : List Int} {lone : Bool} {n : Int} (h : LL xs lone n) (h0 : 0 < xs.length) : 1 ≤ n ∧ n ≤ xs.length := by
  obtain ⟨i, k, hf, h⟩ := h
  rcases hf with ⟨rfl, rfl, _⟩ | ⟨j, hj, rfl, rfl, hp, _⟩
  · omega
  · have := tl_le (lone := lone) hj
    omega
theorem LL_unique {xs : List Int} {lone : Bool} {n n' : Int} (h : LL xs lone n) (h' : LL xs lone n') : n = n' := by
  obtain ⟨i, k, hf, h⟩ := h
  obtain ⟨i', k', hf', h'⟩ := h'
  obtain ⟨rfl, rfl⟩ := FT_unique hf hf'
  omega

/-! ### endsAtCR -/
def EC (xs : List Int) : Prop := ∃ j, j < xs.length ∧ lcr xs j
theorem tl_same {xs : List Int} (h : ¬ EC xs) {j : Nat} (hj : j < xs.length) : tl xs true j = tl xs false j := by
  have : ¬ lcr xs j := fun hl => h ⟨j, hj, hl⟩
  unfold lcr at this
  rcases tl_cases xs true j with ⟨a, e⟩ | ⟨a, c, e⟩ | ⟨a, c, _, e⟩ | ⟨_, _, _, e⟩ | ⟨a, c, e⟩
  · unfold tl; simp [a]
  · unfold tl; simp [a, c]
  · exact absurd ⟨a, c⟩ this
  · simp_all
  · unfold tl; simp [a, c]
theorem FT_same {xs : List Int} (h : ¬ EC xs) {i k : Int} (hf : FT xs true i k) : FT xs false i k := by
  rcases hf with ⟨rfl, rfl, hf⟩ | ⟨j, hj, rfl, rfl, hp, hf⟩
  · exact .inl ⟨rfl, rfl, fun j hj => by rw [← tl_same h hj]; exact hf j hj⟩
  · refine .inr ⟨j, hj, rfl, tl_same h hj, by rw [← tl_same h hj]; exact hp, fun i hi => by rw [← tl_same h (by omega)]; exact hf i hi⟩
theorem LL_same {xs : List Int} (h : ¬ EC xs) {n : Int} (hf : LL xs true n) : LL xs false n := by
  obtain ⟨i, k, hf, e⟩ := hf
  exact ⟨i, k, FT_same h hf, e⟩
theorem EC_drop {xs : List Int} {k : Nat} (h : EC (xs.drop k)) : EC xs := by
  obtain ⟨j, hj, h1, h2⟩ := h
  rw [List.length_drop] at hj
  rw [b_drop] at h1 h2
  exact ⟨k + j, by omega, h1, by rw [Nat.add_assoc]; exact h2⟩

end Go.Proofs.Qxb6003775a.Pl
