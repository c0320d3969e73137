/-
  The walk of FnIndexEOLIsFirstTerminator (function 3).
-/
import Derived.Test.Qxb6003775aEol2
namespace Go.Proofs.Qxb6003775a
open Go.RowKit

/-- behind the search: both calls agree with what it found -/
theorem bne_false {a b : Int} (h : a = b) : (a != b) = false := by simp [h]

set_option maxHeartbeats 2000000 in
theorem law3 (a0 : Option Addr) (len0 cap0 : Nat) (xs : List Int) (a1 : Bool) (w : World) (hcame : Came w a0 len0 xs) :
    Calls Try.prog 3 #[.slice a0 len0 cap0, .bool a1] w fun e w' => e = .returned (.bool true) ∧ Below w.heap.size w w' := by
  by_cases hn : len0 ≤ 1048576
  · have hd : decide (len0 ≤ 1048576) = true := by simp [hn]
    go_enter Try.func3, Try.ntmps3
    go_wp2_with fail
    refine (zz7 _ _ _ _ _).mono ?_
    rintro e w' ⟨rfl, rfl⟩
    go_wp2_with fail
    refine (clone_any _ _ _ _ _ hcame hn).mono ?_
    rintro e w1 ⟨a', c', rfl, hbl, hbelow⟩
    clear hcame
    have HL : Hid (xs.length = len0) := hbl.len
    go_wp2_with fail
    go_loop [5, 6, 7] (fun wi wn j => ∃ k : Nat, k ≤ len0 ∧ wi = .int .i64 (-1) ∧ wn = .int .i64 0 ∧ j = .int .i64 k ∧ ∀ i, i < k → Pl.tl xs a1 i = 0) (fun _ _ j => len0 - (intOf j).toNat)
    case atStart => exact ⟨0, Nat.zero_le _, rfl, rfl, rfl, fun j hj => by omega⟩
    case round =>
      obtain ⟨k, hk, rfl, rfl, rfl, hno⟩ := hrel
      have HN : Hid (∀ i, i < k → Pl.tl xs a1 i = 0) := hno
      clear hno
      by_cases hlt : k < len0
      · rcases hbl.mem with ⟨_, h0, _⟩ | ⟨b, o, rfl, hc⟩
        · omega
        have hterm := term_some b o len0 c' xs a1 k w1 HL hn hc hlt
        clear hc
        generalize hT : Pl.tl xs a1 k = T at hterm
        have HT : Hid (Pl.tl xs a1 k = T) := hT
        clear hT
        by_cases hT0 : 0 < T
        · have HF : Hid (Pl.FT xs a1 k T) := by rw [← HT.out]; exact Pl.ft_of_search HN.out (by rw [HL.out]; exact hlt) (by rw [HT.out]; exact hT0)
          go_wp2_with fail
          refine hterm.mono ?_
          rintro e w' ⟨rfl, rfl⟩
          clear hterm
          go_wp2_with fail
          refine (zeol_any _ _ _ _ _ _ hbl).mono ?_
          rintro e w' ⟨i, m, rfl, hf, rfl⟩
          obtain ⟨e1, e2⟩ := Pl.FT_unique hf HF.out
          subst e1; subst e2
          clear hf
          cases a1 with
          | false =>
            go_wp2
            go_ret
            exact ⟨rfl, hbelow⟩
          | true =>
            go_wp2_with fail
            refine (zeolcr_any _ _ _ _ _ hbl).mono ?_
            rintro e w' ⟨i, m2, rfl, hf, rfl⟩
            obtain ⟨e1, e2⟩ := Pl.FT_unique hf HF.out
            subst e1; subst e2
            clear hf
            go_wp2
            go_ret
            exact ⟨rfl, hbelow⟩
        · go_wp2_with fail
          refine hterm.mono ?_
          rintro e w' ⟨rfl, rfl⟩
          clear hterm
          have HT0 : Hid (T = 0) := by
            have := HT.out
            rcases Pl.tl_cases xs a1 k with ⟨_, e⟩ | ⟨_, _, e⟩ | ⟨_, _, _, e⟩ | ⟨_, _, _, e⟩ | ⟨_, _, e⟩ <;> (show T = 0; omega)
          go_wp2
          go_round
          case rel =>
            refine ⟨k + 1, by omega, rfl, rfl, by go_num, fun i hi => ?_⟩
            by_cases hik : i < k
            · exact HN.out i hik
            · obtain rfl : i = k := by omega
              rw [HT.out, HT0.out]
          case measure => simp [intOf]; omega
      · obtain rfl : k = len0 := by omega
        have HF : Hid (Pl.FT xs a1 (-1) 0) := Pl.ft_of_none (by rw [HL.out]; exact HN.out)
        clear hlt hk
        go_wp2_with fail
        refine (zeol_any _ _ _ _ _ _ hbl).mono ?_
        rintro e w' ⟨i, m, rfl, hf, rfl⟩
        obtain ⟨e1, e2⟩ := Pl.FT_unique hf HF.out
        subst e1; subst e2
        clear hf
        cases a1 with
        | false =>
          go_wp2
          go_ret
          exact ⟨rfl, hbelow⟩
        | true =>
          go_wp2_with fail
          refine (zeolcr_any _ _ _ _ _ hbl).mono ?_
          rintro e w' ⟨i, m2, rfl, hf, rfl⟩
          obtain ⟨e1, e2⟩ := Pl.FT_unique hf HF.out
          subst e1; subst e2
          clear hf
          go_wp2
          go_ret
          exact ⟨rfl, hbelow⟩
  · have hd : decide (len0 ≤ 1048576) = false := by simp; omega
    go_enter Try.func3, Try.ntmps3
    go_wp2_with fail
    refine (zz7 _ _ _ _ _).mono ?_
    rintro e w' ⟨rfl, rfl⟩
    go_wp2
    go_ret
    exact ⟨rfl, Below.refl _ _⟩
end Go.Proofs.Qxb6003775a
