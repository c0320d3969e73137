/-
  TrimEOL (17) at a line that is not empty; countTerminators (18): their contracts.
-/
import Derived.Test.Qxb6003775aEol2
import Derived.Test.Qxb6003775aPlain2
namespace Go.Proofs.Qxb6003775a
open Go.RowKit

/-- TrimEOL: the line's head, without its terminator. -/
theorem trim_some (b o s c : Nat) (xs : List Int) (l : Bool) (w : World) (h : BL w (some ⟨b, o, none⟩) (s + 1) c xs)
    (hc : ∀ j, j < s + 1 → w.cell? ⟨b, o + j, none⟩ = some (.int .u8 (xs.getD j 0))) :
    Calls Try.prog 17 #[.slice (some ⟨b, o, none⟩) (s + 1) c, .bool l] w fun e w' => e = .returned (.slice (some ⟨b, o, none⟩) (Pl.trim xs l) c) ∧ w = w' := by
  have hle := h.le
  have hcap := h.cap
  have HL : Hid (xs.length = s + 1) := h.len
  clear h
  obtain ⟨v, hv, HV⟩ := cell_at hc s (by omega)
  have hg : (0 : Int) < (s : Int) + 1 := by omega
  have hd : decide ((0 : Int) < (s : Int) + 1) = true := decide_eq_true hg
  have hsl := fun m (hm : m ≤ c) (W : World) => slice_to b o (s + 1) c m hm W
  by_cases h10 : v = 10
  · have e1 : (v == 10) = true := by simp [h10]
    by_cases hs : s = 0
    · subst hs
      have E : Hid (Pl.trim xs l = 0) := by
        unfold Pl.trim; rw [HL.out, show 0 + 1 - 1 = 0 by omega, ← HV.out, if_pos h10, if_neg (by omega)]; rfl
      have hs0 : ∀ W, (Instr.slice 22 (.slice (some ⟨b, o, none⟩) 1 c) none (some (.int .i64 0)) none).run Try.prog W = .ok (.slice (some ⟨b, o, none⟩) 0 c) W := fun W => slice_to b o 1 c 0 (by omega) W
      have hv0 : w.cell? ⟨b, o, none⟩ = some (.int .u8 v) := hv
      clear hc h10 hsl hg hd hv
      show Calls Try.prog 17 #[.slice (some ⟨b, o, none⟩) 1 c, .bool l] w _
      go_enter Try.func17, Try.ntmps17
      go_wp2
      go_ret
      exact ⟨by rw [E.out]; rfl, rfl⟩
    · obtain ⟨r, rfl⟩ : ∃ r, s = r + 1 := ⟨s - 1, by omega⟩
      obtain ⟨v2, hv2, HV2⟩ := cell_at hc r (by omega)
      have hg2 : (0 : Int) < (r : Int) + 1 := by omega
      have hd2 : decide ((0 : Int) < (r : Int) + 1) = true := decide_eq_true hg2
      by_cases h13 : v2 = 13
      · have e2 : (v2 == 13) = true := by simp [h13]
        have E : Hid (Pl.trim xs l = r) := by
          unfold Pl.trim; rw [HL.out, show r + 1 + 1 - 1 = r + 1 by omega, show r + 1 + 1 - 2 = r by omega, ← HV.out, if_pos h10, if_pos ⟨by omega, by rw [← HV2.out]; exact h13⟩]; rfl
        have hs0 := hsl r (by omega)
        clear hc h10 h13 hsl hs
        go_enter Try.func17, Try.ntmps17
        go_wp2
        go_ret
        exact ⟨by rw [E.out]; rfl, rfl⟩
      · have e2 : (v2 == 13) = false := by simp [h13]
        have E : Hid (Pl.trim xs l = r + 1) := by
          unfold Pl.trim; rw [HL.out, show r + 1 + 1 - 1 = r + 1 by omega, show r + 1 + 1 - 2 = r by omega, ← HV.out, if_pos h10, if_neg (fun hh => h13 (by rw [HV2.out]; exact hh.2))]; rfl
        have hs0 := hsl (r + 1) (by omega)
        clear hc h10 h13 hsl hs
        go_enter Try.func17, Try.ntmps17
        go_wp2
        go_ret
        exact ⟨by rw [E.out]; rfl, rfl⟩
  · have e1 : (v == 10) = false := by simp [h10]
    by_cases h13 : v = 13
    · have e2 : (v == 13) = true := by simp [h13]
      cases l with
      | true =>
        have E : Hid (Pl.trim xs true = s) := by
          unfold Pl.trim; rw [HL.out, Nat.add_sub_cancel, ← HV.out, if_neg h10, if_pos ⟨rfl, h13⟩]; rfl
        have hs0 := hsl s (by omega)
        clear hc h10 h13 hsl
        go_enter Try.func17, Try.ntmps17
        go_wp2
        go_ret
        exact ⟨by rw [E.out]; rfl, rfl⟩
      | false =>
        have E : Hid (Pl.trim xs false = s + 1) := by
          unfold Pl.trim; rw [HL.out, Nat.add_sub_cancel, ← HV.out, if_neg h10, if_neg (by simp)]; rfl
        have hs0 := hsl (s + 1) (by omega)
        clear hc h10 h13 hsl
        go_enter Try.func17, Try.ntmps17
        go_wp2
        go_ret
        exact ⟨by rw [E.out]; rfl, rfl⟩
    · have e2 : (v == 13) = false := by simp [h13]
      have E : Hid (Pl.trim xs l = s + 1) := by
        unfold Pl.trim; rw [HL.out, Nat.add_sub_cancel, ← HV.out, if_neg h10, if_neg (fun hh => h13 hh.2)]; rfl
      have hs0 := hsl (s + 1) (by omega)
      clear hc h10 h13 hsl
      cases l
      all_goals
        go_enter Try.func17, Try.ntmps17
        go_wp2
        go_ret
        exact ⟨by rw [E.out]; rfl, rfl⟩

theorem cp_one {xs : List Int} {l : Bool} {j : Nat} (h : Pl.b xs j = 10 ∨ (l = true ∧ Pl.b xs j = 13 ∧ Pl.b xs (j + 1) ≠ 10)) : Pl.cp xs l j = 1 := by unfold Pl.cp; rw [if_pos h]
theorem cp_zero {xs : List Int} {l : Bool} {j : Nat} (h : ¬ (Pl.b xs j = 10 ∨ (l = true ∧ Pl.b xs j = 13 ∧ Pl.b xs (j + 1) ≠ 10))) : Pl.cp xs l j = 0 := by unfold Pl.cp; rw [if_neg h]

set_option maxHeartbeats 2000000 in
/-- countTerminators: their number. -/
theorem count_any (a : Option Addr) (n c : Nat) (xs : List Int) (l : Bool) (w : World) (h : BL w a n c xs) :
    Calls Try.prog 18 #[.slice a n c, .bool l] w fun e w' => e = .returned (.int .i64 (Pl.cnt xs l : Nat)) ∧ w = w' := by
  have hle := h.le
  have hcap := h.cap
  have HL : Hid (xs.length = n) := h.len
  have hcl := Pl.cnt_le l xs
  rw [HL.out] at hcl
  generalize hC : Pl.cnt xs l = C at hcl ⊢
  have HC : Hid (Pl.cnt xs l = C) := hC
  clear hC
  go_enter Try.func18, Try.ntmps18
  go_wp2
  go_loop [5, 6] (fun p j => ∃ k q : Nat, k ≤ n ∧ p = .int .i64 q ∧ j = .int .i64 k ∧ q ≤ C ∧ q + Pl.cnt (xs.drop k) l = C) (fun _ j => n - (intOf j).toNat)
  case atStart => exact ⟨0, 0, Nat.zero_le _, rfl, rfl, Nat.zero_le _, by rw [Nat.zero_add]; exact HC.out⟩
  case round =>
    obtain ⟨k, q, hk, rfl, rfl, hq, hinv⟩ := hrel
    have HI : Hid (q + Pl.cnt (xs.drop k) l = C) := hinv
    clear hinv
    by_cases hlt : k < n
    · rcases h.mem with ⟨_, h0, _⟩ | ⟨b, o, rfl, hc⟩
      · omega
      have HS : Hid (Pl.cnt (xs.drop k) l = Pl.cp xs l k + Pl.cnt (xs.drop (k + 1)) l) := Pl.cnt_drop (by rw [HL.out]; exact hlt)
      obtain ⟨v, hv, HV⟩ := cell_at hc k hlt
      clear h
      by_cases h10 : v = 10
      · have e1 : (v == 10) = true := by simp [h10]
        have H1 : Hid (Pl.cp xs l k = 1) := cp_one (.inl (by rw [← HV.out]; exact h10))
        clear h10 hc
        go_wp2
        go_round
        case rel => exact ⟨k + 1, q + 1, by omega, by go_num, by go_num, by have := HI.out; have := HS.out; have := H1.out; omega, by have := HI.out; have := HS.out; have := H1.out; omega⟩
        case measure => simp [intOf]; omega
      · have e1 : (v == 10) = false := by simp [h10]
        by_cases h13 : v = 13
        · have e2 : (v == 13) = true := by simp [h13]
          cases l with
          | false =>
            have H1 : Hid (Pl.cp xs false k = 0) := cp_zero (fun hh => by rcases hh with hh | hh; exact h10 (by rw [HV.out]; exact hh); simp at hh)
            clear h10 h13 hc
            go_wp2
            go_round
            case rel => exact ⟨k + 1, q, by omega, rfl, by go_num, hq, by have := HI.out; have := HS.out; have := H1.out; omega⟩
            case measure => simp [intOf]; omega
          | true =>
            by_cases hend : k + 1 = n
            · have ht : (((k : Int) + 1) == (n : Int)) = true := beq_iff_eq.2 (by omega)
              have H1 : Hid (Pl.cp xs true k = 1) := cp_one (.inr ⟨rfl, by rw [← HV.out]; exact h13, by rw [Pl.b_end (by rw [HL.out]; omega)]; omega⟩)
              clear h10 h13 hc
              go_wp2
              go_round
              case rel => exact ⟨k + 1, q + 1, by omega, by go_num, by go_num, by have := HI.out; have := HS.out; have := H1.out; omega, by have := HI.out; have := HS.out; have := H1.out; omega⟩
              case measure => simp [intOf]; omega
            · have ht : (((k : Int) + 1) == (n : Int)) = false := beq_eq_false_iff_ne.2 (by omega)
              have hlt2 : (k : Int) + 1 < n := by omega
              obtain ⟨v2, hv2, HV2⟩ := cell_at hc (k + 1) (by omega)
              by_cases h2 : v2 = 10
              · have e3 : (v2 != 10) = false := by simp [h2]
                have H1 : Hid (Pl.cp xs true k = 0) := cp_zero (fun hh => by rcases hh with hh | ⟨_, _, hh⟩; exact h10 (by rw [HV.out]; exact hh); exact hh (by rw [← HV2.out]; exact h2))
                clear h10 h13 hc h2
                go_wp2
                go_round
                case rel => exact ⟨k + 1, q, by omega, rfl, by go_num, hq, by have := HI.out; have := HS.out; have := H1.out; omega⟩
                case measure => simp [intOf]; omega
              · have e3 : (v2 != 10) = true := by simp [h2]
                have H1 : Hid (Pl.cp xs true k = 1) := cp_one (.inr ⟨rfl, by rw [← HV.out]; exact h13, by rw [← HV2.out]; exact h2⟩)
                clear h10 h13 hc h2
                go_wp2
                go_round
                case rel => exact ⟨k + 1, q + 1, by omega, by go_num, by go_num, by have := HI.out; have := HS.out; have := H1.out; omega, by have := HI.out; have := HS.out; have := H1.out; omega⟩
                case measure => simp [intOf]; omega
        · have e2 : (v == 13) = false := by simp [h13]
          have H1 : Hid (Pl.cp xs l k = 0) := cp_zero (fun hh => by rcases hh with hh | ⟨_, hh, _⟩; exact h10 (by rw [HV.out]; exact hh); exact h13 (by rw [HV.out]; exact hh))
          clear h10 h13 hc
          cases l
          all_goals
            go_wp2
            go_round
            case rel => exact ⟨k + 1, q, by omega, rfl, by go_num, hq, by have := HI.out; have := HS.out; have := H1.out; omega⟩
            case measure => simp [intOf]; omega
    · have HQ : Hid (q = C) := by
        have := HI.out
        rw [Pl.cnt_end (by rw [HL.out]; omega)] at this
        exact this
      clear h
      go_wp2
      go_ret
      exact ⟨by rw [← HQ.out]; rfl, rfl⟩
end Go.Proofs.Qxb6003775a
