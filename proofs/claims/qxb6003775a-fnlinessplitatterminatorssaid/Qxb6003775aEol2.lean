/-
  indexEOLOrCR at every slice (20), indexEOL (19), the shims (10, 11), LineLen (15): their contracts.
-/
import Derived.Test.Qxb6003775aEol
namespace Go.Proofs.Qxb6003775a
open Go.RowKit

theorem ft_nil (l : Bool) : Pl.FT [] l (-1) 0 := .inl ⟨rfl, rfl, fun j hj => by simp at hj⟩

theorem eolcr_nil (w : World) :
    Calls Try.prog 20 #[.slice none 0 0] w fun e w' => e = .returned (.tuple #[.int .i64 (-1), .int .i64 0]) ∧ w = w' := by
  go_enter Try.func20, Try.ntmps20
  go_wp2
  refine wp_loop_rounds 1 ?_
  rw [rounds_succ]
  go_wp2
  go_ret2
  exact ⟨rfl, rfl⟩

/-- indexEOLOrCR: the first terminator, a lone carriage return counted. -/
theorem eolcr_any (a : Option Addr) (n c : Nat) (xs : List Int) (w : World) (h : BL w a n c xs) :
    Calls Try.prog 20 #[.slice a n c] w fun e w' => ∃ i k : Int, e = .returned (.tuple #[.int .i64 i, .int .i64 k]) ∧ Pl.FT xs true i k ∧ w = w' := by
  rcases h.mem with ⟨rfl, rfl, rfl⟩ | ⟨b, o, rfl, hc⟩
  · have hx : xs = [] := List.length_eq_zero_iff.1 h.len
    subst hx
    exact (eolcr_nil w).mono fun e w' ⟨he, hw⟩ => ⟨-1, 0, he, ft_nil true, hw⟩
  · exact eolcr_some b o n c xs w h hc

theorem eol_lone (a : Option Addr) (n c : Nat) (xs : List Int) (w : World) (h : BL w a n c xs) :
    Calls Try.prog 19 #[.slice a n c, .bool true] w fun e w' => ∃ i k : Int, e = .returned (.tuple #[.int .i64 i, .int .i64 k]) ∧ Pl.FT xs true i k ∧ w = w' := by
  go_enter Try.func19, Try.ntmps19
  go_wp2_with fail
  refine (eolcr_any _ _ _ _ _ h).mono ?_
  rintro e w' ⟨i, k, rfl, hf, rfl⟩
  have HF : Hid (Pl.FT xs true i k) := hf
  clear hf h
  go_wp2
  go_ret2
  exact ⟨i, k, rfl, HF.out, rfl⟩

theorem idx_nat {xs : List Int} {c r : Int} (h : Pl.IsIdx xs c r) : (r = -1) ∨ ∃ m : Nat, r = m ∧ m < xs.length := by
  rcases h with ⟨e, _⟩ | ⟨j, hj, e, _⟩
  · exact .inl e
  · exact .inr ⟨j, e, hj⟩

set_option maxHeartbeats 1000000 in
theorem eol_plain (a : Option Addr) (n c : Nat) (xs : List Int) (w : World) (h : BL w a n c xs) :
    Calls Try.prog 19 #[.slice a n c, .bool false] w fun e w' => ∃ i k : Int, e = .returned (.tuple #[.int .i64 i, .int .i64 k]) ∧ Pl.FT xs false i k ∧ w = w' := by
  have hle := h.le
  have hcap := h.cap
  have HL : Hid (xs.length = n) := h.len
  go_enter Try.func19, Try.ntmps19
  go_wp2_with fail
  refine (idx_any _ _ _ _ _ h 10 (by omega)).mono ?_
  rintro e w' ⟨r, rfl, hr, rfl⟩
  have HR : Hid (Pl.IsIdx xs 10 r) := hr
  rcases idx_nat hr with rfl | ⟨m, rfl, hm⟩
  · clear hr h
    go_wp2
    go_ret2
    exact ⟨-1, 0, rfl, Pl.eol_none HR.out, rfl⟩
  · rw [HL.out] at hm
    clear hr
    rcases h.mem with ⟨rfl, rfl, rfl⟩ | ⟨b, o, rfl, hc⟩
    · omega
    · clear h
      by_cases hm0 : m = 0
      · subst hm0
        clear hc
        go_wp2
        go_ret2
        exact ⟨0, 1, rfl, Pl.eol_lf HR.out (.inl rfl), rfl⟩
      · obtain ⟨q, rfl⟩ : ∃ q, m = q + 1 := ⟨m - 1, by omega⟩
        obtain ⟨v, hv, HV⟩ := cell_at hc q (by omega)
        have hlt1 : (q : Int) < n := by omega
        have hgt : (0 : Int) < (q : Int) + 1 := by omega
        have hd : decide ((0 : Int) < (q : Int) + 1) = true := decide_eq_true hgt
        clear hc hm0
        by_cases h13 : v = 13
        · have e1 : (v == 13) = true := by simp [h13]
          have HF : Hid (Pl.FT xs false (((q + 1 : Nat) : Int) - 1) 2) := Pl.eol_crlf HR.out (by omega) (by rw [Nat.add_sub_cancel, ← HV.out]; exact h13)
          clear h13
          go_wp2
          go_ret2
          exact ⟨_, _, rfl, by have := HF.out; rwa [show ((q + 1 : Nat) : Int) - 1 = (q : Int) by omega] at this, rfl⟩
        · have e1 : (v == 13) = false := by simp [h13]
          have HF : Hid (Pl.FT xs false ((q + 1 : Nat) : Int) 1) := Pl.eol_lf HR.out (.inr (by rw [Nat.add_sub_cancel, ← HV.out]; exact h13))
          clear h13
          go_wp2
          go_ret2
          exact ⟨_, _, rfl, by have := HF.out; rwa [show ((q + 1 : Nat) : Int) = (q : Int) + 1 by omega] at this, rfl⟩

/-- indexEOL: the first terminator's place and length, or -1 and 0. -/
theorem eol_any (a : Option Addr) (n c : Nat) (xs : List Int) (l : Bool) (w : World) (h : BL w a n c xs) :
    Calls Try.prog 19 #[.slice a n c, .bool l] w fun e w' => ∃ i k : Int, e = .returned (.tuple #[.int .i64 i, .int .i64 k]) ∧ Pl.FT xs l i k ∧ w = w' := by
  cases l
  · exact eol_plain a n c xs w h
  · exact eol_lone a n c xs w h

theorem zeol_any (a : Option Addr) (n c : Nat) (xs : List Int) (l : Bool) (w : World) (h : BL w a n c xs) :
    Calls Try.prog 10 #[.slice a n c, .bool l] w fun e w' => ∃ i k : Int, e = .returned (.tuple #[.int .i64 i, .int .i64 k]) ∧ Pl.FT xs l i k ∧ w = w' := by
  go_enter Try.func10, Try.ntmps10
  go_wp2_with fail
  refine (eol_any _ _ _ _ _ _ h).mono ?_
  rintro e w' ⟨i, k, rfl, hf, rfl⟩
  have HF : Hid (Pl.FT xs l i k) := hf
  clear hf h
  go_wp2
  go_ret2
  exact ⟨i, k, rfl, HF.out, rfl⟩

theorem zeolcr_any (a : Option Addr) (n c : Nat) (xs : List Int) (w : World) (h : BL w a n c xs) :
    Calls Try.prog 11 #[.slice a n c] w fun e w' => ∃ i k : Int, e = .returned (.tuple #[.int .i64 i, .int .i64 k]) ∧ Pl.FT xs true i k ∧ w = w' := by
  go_enter Try.func11, Try.ntmps11
  go_wp2_with fail
  refine (eolcr_any _ _ _ _ _ h).mono ?_
  rintro e w' ⟨i, k, rfl, hf, rfl⟩
  have HF : Hid (Pl.FT xs true i k) := hf
  clear hf h
  go_wp2
  go_ret2
  exact ⟨i, k, rfl, HF.out, rfl⟩

theorem ft_bounds {xs : List Int} {l : Bool} {i k : Int} (h : Pl.FT xs l i k) : -1 ≤ i ∧ i ≤ xs.length ∧ 0 ≤ k ∧ k ≤ 2 := by
  rcases h with ⟨rfl, rfl, _⟩ | ⟨j, hj, rfl, rfl, hp, _⟩
  · omega
  · rcases Pl.tl_cases xs l j with ⟨_, e⟩ | ⟨_, h2, e⟩ | ⟨_, _, _, e⟩ | ⟨_, _, _, e⟩ | ⟨_, _, e⟩ <;> omega

/-- LineLen: the first line's length. -/
theorem line_any (a : Option Addr) (n c : Nat) (xs : List Int) (l : Bool) (w : World) (h : BL w a n c xs) :
    Calls Try.prog 15 #[.slice a n c, .bool l] w fun e w' => ∃ m : Int, e = .returned (.int .i64 m) ∧ Pl.LL xs l m ∧ w = w' := by
  have hle := h.le
  have hcap := h.cap
  have HL : Hid (xs.length = n) := h.len
  go_enter Try.func15, Try.ntmps15
  go_wp2_with fail
  refine (eol_any _ _ _ _ _ _ h).mono ?_
  rintro e w' ⟨i, k, rfl, hf, rfl⟩
  have HF : Hid (Pl.FT xs l i k) := hf
  obtain ⟨b1, b2, b3, b4⟩ := ft_bounds hf
  rw [HL.out] at b2
  clear hf h
  by_cases hi : 0 ≤ i
  · go_wp2
    go_ret
    exact ⟨_, rfl, ⟨i, k, HF.out, .inl ⟨hi, rfl⟩⟩, rfl⟩
  · go_wp2
    go_ret
    exact ⟨_, rfl, ⟨i, k, HF.out, .inr ⟨by omega, by rw [HL.out]⟩⟩, rfl⟩
end Go.Proofs.Qxb6003775a
