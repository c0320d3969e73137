/-
  The plain mathematics of the seat b6003775a, second part: counting terminators, trimming a line. No Go in sight.
-/
import Derived.Test.Qxb6003775aPlain
namespace Go.Proofs.Qxb6003775a.Pl

/-- does a terminator end at j? (CR LF ends at its LF) -/
def cp (xs : List Int) (lone : Bool) (j : Nat) : Nat := if b xs j = 10 ∨ (lone = true ∧ b xs j = 13 ∧ b xs (j + 1) ≠ 10) then 1 else 0
/-- the number of terminators -/
def cnt : List Int → Bool → Nat
  | [], _ => 0
  | x :: l, lone => cp (x :: l) lone 0 + cnt l lone

theorem cp_drop (xs : List Int) (lone : Bool) (j i : Nat) : cp (xs.drop j) lone i = cp xs lone (j + i) := by
  unfold cp; rw [b_drop, b_drop, Nat.add_assoc]
theorem cp_le (xs : List Int) (lone : Bool) (j : Nat) : cp xs lone j ≤ 1 := by unfold cp; split <;> omega
theorem cnt_drop {xs : List Int} {lone : Bool} {j : Nat} (h : j < xs.length) : cnt (xs.drop j) lone = cp xs lone j + cnt (xs.drop (j + 1)) lone := by
  have h1 : cp (xs.drop j) lone 0 = cp xs lone j := cp_drop xs lone j 0
  rw [List.drop_eq_getElem_cons h] at h1 ⊢
  rw [← h1]; rfl
theorem cnt_end {xs : List Int} {lone : Bool} {j : Nat} (h : xs.length ≤ j) : cnt (xs.drop j) lone = 0 := by
  rw [List.drop_eq_nil_of_le h]; rfl
theorem cnt_skip {xs : List Int} {lone : Bool} : ∀ j, j ≤ xs.length → (∀ i, i < j → cp xs lone i = 0) → cnt xs lone = cnt (xs.drop j) lone
  | 0, _, _ => rfl
  | j + 1, hj, h => by
    rw [cnt_skip j (by omega) (fun i hi => h i (by omega)), cnt_drop (by omega), h j (by omega), Nat.zero_add]
theorem cnt_le (lone : Bool) : ∀ xs : List Int, cnt xs lone ≤ xs.length
  | [] => Nat.le_refl _
  | x :: l => by
    have := cnt_le lone l
    have := cp_le (x :: l) lone 0
    simp only [cnt, List.length_cons]; omega
theorem cp_of_tl {xs : List Int} {lone : Bool} {j : Nat} (h : tl xs lone j = 0) : cp xs lone j = 0 := by
  unfold cp
  rcases tl_cases xs lone j with ⟨_, e⟩ | ⟨_, _, e⟩ | ⟨_, _, _, e⟩ | ⟨h1, _, hl, _⟩ | ⟨h1, h2, _⟩
  · omega
  · omega
  · omega
  · rw [if_neg (by rw [h1, hl]; simp)]
  · rw [if_neg (by simp [h1, h2])]

/-- the length of a line without its terminator -/
def trim (xs : List Int) (lone : Bool) : Nat :=
  if b xs (xs.length - 1) = 10 then (if 1 < xs.length ∧ b xs (xs.length - 2) = 13 then xs.length - 2 else xs.length - 1)
  else if lone = true ∧ b xs (xs.length - 1) = 13 then xs.length - 1 else xs.length

theorem tl_take {ys : List Int} {lone : Bool} {j i : Nat} (h : tl ys lone i = 0) (hi : i < j) : tl (ys.take j) lone i = 0 := by
  have hb : b (ys.take j) i = b ys i := b_take hi
  have hb1 : b (ys.take j) (i + 1) = b ys (i + 1) ∨ b (ys.take j) (i + 1) = 0 := by
    by_cases h1 : i + 1 < j
    · exact .inl (b_take h1)
    · exact .inr (b_end (by have := List.length_take_le j ys; omega))
  unfold tl
  rw [hb]
  rcases tl_cases ys lone i with ⟨_, e⟩ | ⟨_, _, e⟩ | ⟨_, _, _, e⟩ | ⟨h1, h2, hl, _⟩ | ⟨h1, h2, _⟩
  · omega
  · omega
  · omega
  · have : b (ys.take j) (i + 1) ≠ 10 := by rcases hb1 with e | e <;> rw [e] <;> omega
    rw [if_neg (by omega), if_pos h1, if_neg this, hl]; rfl
  · rw [if_neg h1, if_neg h2]

/-- what the law asks of one line -/
structure Piece (ys : List Int) (lone : Bool) (q t : Nat) : Prop where
  pos : 1 ≤ q
  le : q ≤ ys.length
  tle : t ≤ q
  none : ∀ i k, FT ((ys.take q).take t) lone i k → i = -1
  more : q < ys.length → t < q
  term : t < q → tl (ys.take q) lone t = (q : Int) - t
  count : cnt ys lone = (if t < q then 1 else 0) + cnt (ys.drop q) lone

theorem ft_none_of {zs : List Int} {lone : Bool} (h : ∀ j, j < zs.length → tl zs lone j = 0) {i k : Int} (hf : FT zs lone i k) : i = -1 := (FT_unique hf (ft_of_none h)).1

theorem piece_of {ys : List Int} {lone : Bool} {n : Int} (h0 : 0 < ys.length) (h : LL ys lone n) : ∃ q : Nat, n = q ∧ Piece ys lone q (trim (ys.take q) lone) := by
  obtain ⟨i, k, hf, hn⟩ := h
  rcases hf with ⟨rfl, rfl, hf⟩ | ⟨j, hj, rfl, rfl, hp, hf⟩
  · -- no terminator
    have hn' : n = ys.length := by omega
    refine ⟨ys.length, hn', ?_⟩
    have hlast := hf (ys.length - 1) (by omega)
    have ht : trim ys lone = ys.length := by
      unfold trim
      rcases tl_cases ys lone (ys.length - 1) with ⟨_, e⟩ | ⟨_, _, e⟩ | ⟨_, _, _, e⟩ | ⟨h1, h2, hl, _⟩ | ⟨h1, h2, _⟩
      · omega
      · omega
      · omega
      · rw [if_neg (by omega), if_neg (by rw [hl]; simp)]
      · rw [if_neg h1, if_neg (by simp [h2])]
    rw [List.take_length, ht]
    refine ⟨by omega, Nat.le_refl _, Nat.le_refl _, fun i k hf' => ?_, fun h => by omega, fun h => by omega, ?_⟩
    · rw [List.take_length, List.take_length] at hf'
      exact ft_none_of hf hf'
    · rw [if_neg (by omega), cnt_skip ys.length (Nat.le_refl _) (fun i hi => cp_of_tl (hf i hi)), Nat.zero_add]
  · -- the first terminator at j
    have hn' : n = j + tl ys lone j := by omega
    have hle := tl_le (lone := lone) hj
    have hskip := cnt_skip (lone := lone) j (by omega) (fun i hi => cp_of_tl (hf i hi))
    have hbody : ∀ q, j ≤ q → ∀ i k, FT ((ys.take q).take j) lone i k → i = -1 := fun q hq i k hf' => by
      rw [List.take_take, Nat.min_eq_left hq] at hf'
      refine ft_none_of (fun i hi => ?_) hf'
      have hij : i < j := by have := List.length_take_le j ys; omega
      exact tl_take (hf i hij) hij
    rcases tl_cases ys lone j with ⟨h1, e⟩ | ⟨h1, h2, e⟩ | ⟨h1, h2, hl, e⟩ | ⟨_, _, _, e⟩ | ⟨_, _, e⟩
    · -- LF
      rw [e] at hn' hle
      refine ⟨j + 1, by omega, ?_⟩
      have hlen : (ys.take (j + 1)).length = j + 1 := by simp; omega
      have ht : trim (ys.take (j + 1)) lone = j := by
        unfold trim
        rw [hlen, Nat.add_sub_cancel, b_take (by omega), if_pos h1]
        by_cases hj0 : 1 < j + 1
        · have e2 : j + 1 - 2 = j - 1 := by omega
          rw [e2, b_take (by omega)]
          have hprev : b ys (j - 1) ≠ 13 := by
            intro h13
            have := hf (j - 1) (by omega)
            unfold tl at this
            rw [show j - 1 + 1 = j by omega, h13, h1] at this
            simp at this
          rw [if_neg (fun hc => hprev hc.2)]
        · rw [if_neg (by omega)]
      rw [ht]
      refine ⟨by omega, by omega, by omega, hbody _ (by omega), fun _ => by omega, fun _ => ?_, ?_⟩
      · unfold tl; rw [b_take (by omega), if_pos h1]; omega
      · rw [if_pos (by omega), hskip, cnt_drop hj]
        unfold cp; rw [if_pos (.inl h1)]
    · -- CR LF
      rw [e] at hn' hle
      refine ⟨j + 2, by omega, ?_⟩
      have hlen : (ys.take (j + 2)).length = j + 2 := by simp; omega
      have ht : trim (ys.take (j + 2)) lone = j := by
        unfold trim
        rw [hlen, show j + 2 - 1 = j + 1 by omega, show j + 2 - 2 = j by omega, b_take (by omega), b_take (by omega), if_pos h2, if_pos ⟨by omega, h1⟩]
      rw [ht]
      refine ⟨by omega, by omega, by omega, hbody _ (by omega), fun _ => by omega, fun _ => ?_, ?_⟩
      · unfold tl; rw [b_take (by omega), b_take (by omega), h1, h2]; simp; omega
      · rw [if_pos (by omega), hskip, cnt_drop hj, cnt_drop (by omega)]
        have c1 : cp ys lone j = 0 := by unfold cp; rw [if_neg (by rw [h1, h2]; simp)]
        have c2 : cp ys lone (j + 1) = 1 := by unfold cp; rw [if_pos (.inl h2)]
        rw [c1, c2, Nat.zero_add]
    · -- a lone CR
      rw [e] at hn' hle
      refine ⟨j + 1, by omega, ?_⟩
      have hlen : (ys.take (j + 1)).length = j + 1 := by simp; omega
      have ht : trim (ys.take (j + 1)) lone = j := by
        unfold trim
        rw [hlen, Nat.add_sub_cancel, b_take (by omega), h1, if_neg (by omega), if_pos ⟨hl, rfl⟩]
      rw [ht]
      refine ⟨by omega, by omega, by omega, hbody _ (by omega), fun _ => by omega, fun _ => ?_, ?_⟩
      · unfold tl; rw [b_take (by omega), h1, if_neg (by omega), if_pos rfl, if_neg (by rw [b_end (by omega)]; omega), if_pos hl]; omega
      · rw [if_pos (by omega), hskip, cnt_drop hj]
        unfold cp; rw [if_pos (.inr ⟨hl, h1, h2⟩)]
    · omega
    · omega

end Go.Proofs.Qxb6003775a.Pl
