/-
  (*tokens).skip (function 40): its contract.
-/
import Derived.Test.Qxb6001751aFmtOwn
namespace Go.Proofs.Qxb6001751aFmt
open Go.RowKit

/-- white space, or a separator -/
def isSep (c : Int) : Bool := c == 32 || c == 9 || c == 13 || c == 10 || c == 44 || c == 58

theorem isSep_true {c : Int} (h : isSep c = true) : c = 32 ∨ c = 9 ∨ c = 13 ∨ c = 10 ∨ c = 44 ∨ c = 58 := by
  simp only [isSep, Bool.or_eq_true, beq_iff_eq] at h; omega
theorem isSep_false {c : Int} (h : isSep c = false) : (c == 32) = false ∧ (c == 9) = false ∧ (c == 13) = false ∧ (c == 10) = false ∧ (c == 44) = false ∧ (c == 58) = false := by
  simp only [isSep, Bool.or_eq_false_iff] at h; exact ⟨h.1.1.1.1.1, h.1.1.1.1.2, h.1.1.1.2, h.1.1.2, h.1.2, h.2⟩

set_option maxHeartbeats 2000000 in
set_option maxRecDepth 100000 in
theorem skip_any (T d n cap : Nat) (xs : List Int) (k p : Nat) (w : World) (h : Tok w T d n cap xs k) (hkp : k ≤ p) (hpn : p ≤ n) (hn : n ≤ 16777216)
    (hsep : ∀ j, k ≤ j → j < p → isSep (bt xs j) = true) (hstop : p < n → isSep (bt xs p) = false) :
    Calls Tryf.prog 40 #[.pointer (some ⟨T, 0, none⟩)] w fun e w' => e = .returned (.tuple #[]) ∧ Adv T p w w' := by
  have HS : Hid (∀ j, k ≤ j → j < p → isSep (bt xs j) = true) := hsep
  have HP : Hid (p < n → isSep (bt xs p) = false) := hstop
  clear hsep hstop
  go_enter Tryf.func40, Tryf.ntmps40
  go_wp2
  go_loopg [] (p - k) (fun g wr => ∃ i : Nat, k ≤ i ∧ i ≤ p ∧ g = p - i ∧ Adv T i w wr)
  case atStart => exact ⟨k, Nat.le_refl _, hkp, rfl, adv_refl h.pos⟩
  case round =>
    obtain ⟨i, hki, hip, hgk, hadv⟩ := hrel
    have HG : Hid (gk = p - i) := hgk
    clear hgk
    have HA : Hid (Adv T i w wr) := hadv
    obtain ⟨_, _, _, cd, cp, cf, cc⟩ := adv_tok h hadv
    clear hadv
    by_cases hin : i < n
    · have ccell := cc i hin
      clear cc
      have hin' : (i : Int) < (n : Int) := by omega
      generalize hv : bt xs i = v at ccell
      have HV : Hid (bt xs i = v) := hv
      clear hv
      by_cases hlt : i < p
      · have hs := HS.out i hki hlt
        rw [HV.out] at hs
        rcases isSep_true hs with rfl | rfl | rfl | rfl | rfl | rfl
        all_goals clear hs
        all_goals
          go_wp2
          go_quiet (fail)
          go_wp2
          go_quiet (fail)
          go_wp2
          go_roundg (p - (i + 1))
          case measure => have := HG.out; omega
          case rel => exact ⟨i + 1, by omega, by omega, rfl, adv_store (adv_drewN HA.out _) (i + 1)⟩
      · obtain rfl : i = p := by omega
        have hs := HP.out hin
        rw [HV.out] at hs
        obtain ⟨e1, e2, e3, e4, e5, e6⟩ := isSep_false hs
        clear hs
        go_wp2
        go_quiet (fail)
        go_wp2
        go_quiet (fail)
        go_wp2
        exact bodyPost_ret (results_none rfl _ _ _) rfl ⟨rfl, adv_drewN HA.out _⟩
    · obtain rfl : i = p := by omega
      have hin' : ¬ (i : Int) < (n : Int) := by omega
      have hd : decide ((i : Int) < (n : Int)) = false := by simp; omega
      clear cc
      go_wp2
      go_quiet (fail)
      go_wp2
      go_end0
      exact ⟨rfl, adv_drewN HA.out _⟩
end Go.Proofs.Qxb6001751aFmt
