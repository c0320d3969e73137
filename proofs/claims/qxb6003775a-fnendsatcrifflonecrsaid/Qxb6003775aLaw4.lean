/-
  The walk of FnEndsAtCRIffLoneCR (function 4).
-/
import Derived.Test.Qxb6003775aEnds
namespace Go.Proofs.Qxb6003775a
open Go.RowKit

set_option maxHeartbeats 1000000 in
theorem law4 (a0 : Option Addr) (len0 cap0 : Nat) (xs : List Int) (a1 : Bool) (w : World) (hcame : Came w a0 len0 xs) :
    Calls Try.prog 4 #[.slice a0 len0 cap0, .bool a1] w fun e w' => e = .returned (.bool true) ∧ Below w.heap.size w w' := by
  by_cases hn : len0 ≤ 1048576
  · have hd : decide (len0 ≤ 1048576) = true := by simp [hn]
    cases a1 with
    | false =>
      go_enter Try.func4, Try.ntmps4
      go_wp2_with fail
      refine (zz12 _ _ _ _ _).mono ?_
      rintro e w' ⟨rfl, rfl⟩
      go_wp2_with fail
      refine (clone_any _ _ _ _ _ hcame hn).mono ?_
      rintro e w1 ⟨a', c', rfl, hbl, hbelow⟩
      clear hcame
      go_wp2_with fail
      refine (zends_any _ _ _ _ _ _ hbl).mono ?_
      rintro e w' ⟨r, rfl, hr, rfl⟩
      obtain rfl : r = false := by simpa using hr
      clear hr
      go_wp2
      go_ret
      exact ⟨rfl, hbelow⟩
    | true =>
      go_enter Try.func4, Try.ntmps4
      go_wp2_with fail
      refine (zz12 _ _ _ _ _).mono ?_
      rintro e w' ⟨rfl, rfl⟩
      go_wp2_with fail
      refine (clone_any _ _ _ _ _ hcame hn).mono ?_
      rintro e w1 ⟨a', c', rfl, hbl, hbelow⟩
      clear hcame
      have HBL := hbl
      obtain ⟨hl, hle, hcap, hby, hm⟩ := hbl
      rcases hm with ⟨rfl, rfl, rfl⟩ | ⟨b, o, rfl, hc⟩
      · have hx : xs = [] := List.length_eq_zero_iff.1 hl
        subst hx
        clear hl hle hcap hby hn
        go_wp2_with fail
        refine wp_loop_rounds 1 ?_
        rw [rounds_succ]
        go_wp2_with fail
        refine (zends_any _ _ _ _ _ _ HBL).mono ?_
        rintro e w' ⟨r, rfl, hr, rfl⟩
        obtain rfl : r = false := by simpa [Pl.EC] using hr
        clear hr
        go_wp2
        go_ret
        exact ⟨rfl, hbelow⟩
      · have HL : Hid (xs.length = len0) := hl
        clear hl hby
        go_wp2_with fail
        go_loop [5, 6] (fun want j => ∃ k : Nat, k ≤ len0 ∧ j = .int .i64 k ∧ want = .bool false ∧ ∀ i, i < k → ¬ Pl.lcr xs i) (fun _ j => len0 - (intOf j).toNat)
        case atStart => exact ⟨0, Nat.zero_le _, rfl, rfl, fun j hj => by omega⟩
        case round =>
          obtain ⟨k, hk, rfl, rfl, hno⟩ := hrel
          have HN : Hid (∀ j, j < k → ¬ Pl.lcr xs j) := hno
          clear hno
          by_cases hlt : k < len0
          · obtain ⟨v, hcell, HV⟩ : ∃ v, w1.cell? ⟨b, o + k, none⟩ = some (.int .u8 v) ∧ Hid (v = Pl.b xs k) := ⟨_, hc _ hlt, by simp [Hid, Pl.b]⟩
            by_cases h13 : v = 13
            · have hb13 : (v == 13) = true := by simp [h13]
              have H13 : Hid (v = 13) := h13
              clear h13
              by_cases hend : k + 1 = len0
              · have HE : Hid (Pl.EC xs) := ⟨k, by rw [HL.out]; exact hlt, by rw [← HV.out]; exact H13.out, by rw [Pl.b_end (by rw [HL.out]; omega)]; omega⟩
                have ht : (((k : Int) + 1) == (len0 : Int)) = true := beq_iff_eq.2 (by omega)
                clear hc
                go_wp2_with fail
                refine (zends_any _ _ _ _ _ _ HBL).mono ?_
                rintro e w' ⟨r, rfl, hr, rfl⟩
                obtain rfl : r = true := by simpa [HE.out] using hr
                clear hr
                go_wp2
                go_ret
                exact ⟨rfl, hbelow⟩
              · obtain ⟨v2, hcell2, HV2⟩ : ∃ v, w1.cell? ⟨b, o + (k + 1), none⟩ = some (.int .u8 v) ∧ Hid (v = Pl.b xs (k + 1)) := ⟨_, hc _ (by omega), by simp [Hid, Pl.b]⟩
                have ht : (((k : Int) + 1) == (len0 : Int)) = false := beq_eq_false_iff_ne.2 (by omega)
                have hlt2 : (k : Int) + 1 < len0 := by omega
                clear hc
                by_cases h10 : v2 = 10
                · have hb10 : (v2 != 10) = false := by simp [h10]
                  have H10 : Hid (v2 = 10) := h10
                  clear h10
                  go_wp2
                  go_round
                  case rel =>
                    refine ⟨k + 1, by omega, by go_num, rfl, fun j hj hl => ?_⟩
                    by_cases hj2 : j < k
                    · exact HN.out j hj2 hl
                    · obtain rfl : j = k := by omega
                      exact hl.2 (by rw [← HV2.out]; exact H10.out)
                  case measure => simp [intOf]; omega
                · have hb10 : (v2 != 10) = true := by simp [h10]
                  have HE : Hid (Pl.EC xs) := ⟨k, by rw [HL.out]; exact hlt, by rw [← HV.out]; exact H13.out, by rw [← HV2.out]; exact h10⟩
                  clear h10
                  go_wp2_with fail
                  refine (zends_any _ _ _ _ _ _ HBL).mono ?_
                  rintro e w' ⟨r, rfl, hr, rfl⟩
                  obtain rfl : r = true := by simpa [HE.out] using hr
                  clear hr
                  go_wp2
                  go_ret
                  exact ⟨rfl, hbelow⟩
            · have hb13 : (v == 13) = false := by simp [h13]
              have H13 : Hid (v ≠ 13) := h13
              clear h13 hc
              go_wp2
              go_round
              case rel =>
                refine ⟨k + 1, by omega, by go_num, rfl, fun j hj hl => ?_⟩
                by_cases hj2 : j < k
                · exact HN.out j hj2 hl
                · obtain rfl : j = k := by omega
                  exact H13.out (by rw [HV.out]; exact hl.1)
              case measure => simp [intOf]; omega
          · have HE : Hid (¬ Pl.EC xs) := fun ⟨j, hj, hl⟩ => HN.out j (by rw [HL.out] at hj; omega) hl
            clear hc
            go_wp2_with fail
            refine (zends_any _ _ _ _ _ _ HBL).mono ?_
            rintro e w' ⟨r, rfl, hr, rfl⟩
            obtain rfl : r = false := by simpa [HE.out] using hr
            clear hr
            go_wp2
            go_ret
            exact ⟨rfl, hbelow⟩
  · have hd : decide (len0 ≤ 1048576) = false := by simp; omega
    go_enter Try.func4, Try.ntmps4
    go_wp2_with fail
    refine (zz12 _ _ _ _ _).mono ?_
    rintro e w' ⟨rfl, rfl⟩
    go_wp2
    go_ret
    exact ⟨rfl, Below.refl _ _⟩

end Go.Proofs.Qxb6003775a
