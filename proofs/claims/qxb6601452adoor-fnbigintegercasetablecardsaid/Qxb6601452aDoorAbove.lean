/-
  decimalAbove2To53 (function 8): its contract at digits.
-/
import Derived.Test.Qxb6601452aDoorAny
import Derived.Test.Qxb6601452aDoorDec
namespace Go.Proofs.Qxb6601452aDoor
open Go.RowKit

/-- 's[k:]' of a string, under a name -/
theorem cut (m : ByteArray) (k : Nat) (hk : k ≤ m.size) : ∃ M : ByteArray, (∀ W, (Instr.slice 9 (.string m) (some (.int .i64 (k : Int))) none none).run Tryd.prog W = .ok (.string M) W) ∧ M.data.toList = m.data.toList.drop k ∧ M.size = m.size - k := by
  refine ⟨m.extract k m.size, fun W => ?_, Lib.extract_to_end m k, by simp⟩
  have h := run_slice_string_l (P := Tryd.prog) W 9 m Tryd.underlying9 .i64 (k : Int) (by omega) (by omega)
  rw [Int.toNat_natCast] at h
  exact h

theorem list_at (m : ByteArray) (k : Nat) (h : k < m.size) : m.data.toList[k]? = some (m[k]'h) := Lib.data_getElem? m k h

/-- the text of 2^53 -/
theorem T_at (j : Nat) (h : j < 16) : Dec.T[j]? = some ((⟨#[57, 48, 48, 55, 49, 57, 57, 50, 53, 52, 55, 52, 48, 57, 57, 50]⟩ : ByteArray)[j]'(by show j < 16; exact h)) := by
  have := Lib.data_getElem? (⟨#[57, 48, 48, 55, 49, 57, 57, 50, 53, 52, 55, 52, 48, 57, 57, 50]⟩ : ByteArray) j h
  exact this

set_option maxHeartbeats 4000000 in
set_option maxRecDepth 100000 in
theorem above_any (m : ByteArray) (w : World) (h1 : 1 ≤ m.size) (h2 : m.size ≤ 1048576) (hd : ∀ c ∈ m.data.toList, Dec.dg c) :
    Calls Tryd.prog 8 #[.string m] w fun e w' => e = .returned (.bool (decide (9007199254740992 < Dec.val m.data.toList))) ∧ Below w.heap.size w w' := by
  generalize hR : decide (9007199254740992 < Dec.val m.data.toList) = R
  have HR : Hid (decide (9007199254740992 < Dec.val m.data.toList) = R) := hR
  have HD : Hid (∀ c ∈ m.data.toList, Dec.dg c) := hd
  clear hR hd
  go_enter Tryd.func8, Tryd.ntmps8
  go_wp2
  go_loop [3] (fun i => ∃ k : Nat, k + 1 ≤ m.size ∧ i = .int .i64 k ∧ ∀ j, j < k → ∃ c, m.data.toList[j]? = some c ∧ c.toNat = 48) (fun i => m.size - (intOf i).toNat)
  case atStart => exact ⟨0, h1, rfl, fun j hj => by omega⟩
  case round =>
    obtain ⟨k, hk, rfl, hz⟩ := hrel
    have HZ : Hid (∀ j, j < k → ∃ c, m.data.toList[j]? = some c ∧ c.toNat = 48) := hz
    clear hz
    by_cases hgo : k + 1 < m.size ∧ (m[k]'(by omega)).toNat = 48
    · obtain ⟨hlt, h48⟩ := hgo
      have e1 : (((m[k]'(by omega)).toNat : Int) == 48) = true := beq_iff_eq.2 (by omega)
      have hlt' : (k : Int) < (m.size : Int) - 1 := by omega
      have hd1 : decide ((k : Int) < (m.size : Int) - 1) = true := decide_eq_true hlt'
      go_wp2
      go_round
      case rel =>
        refine ⟨k + 1, by omega, by go_num, fun j hj => ?_⟩
        by_cases hjk : j < k
        · exact HZ.out j hjk
        · obtain rfl : j = k := by omega
          exact ⟨_, list_at m j (by omega), h48⟩
      case measure => simp [intOf]; omega
    · obtain ⟨M, hsl, hMl, hMs⟩ := cut m k (by omega)
      have HV : Hid (decide (9007199254740992 < Dec.val M.data.toList) = R) := by rw [hMl, Dec.val_drop k _ HZ.out]; exact HR.out
      have HDM : Hid (∀ c ∈ M.data.toList, Dec.dg c) := fun c hc => HD.out c (by rw [hMl] at hc; exact List.mem_of_mem_drop hc)
      have HF : Hid (2 ≤ M.size → ∀ c, M.data.toList[0]? = some c → c.toNat ≠ 48) := by
        intro h2m c hc h48
        rw [hMl, List.getElem?_drop, Nat.add_zero, list_at m k (by omega)] at hc
        have e := Option.some.inj hc
        exact hgo ⟨by omega, by rw [e]; exact h48⟩
      have hM1 : 1 ≤ M.size := by omega
      have hM2 : M.size ≤ 1048576 := by omega
      have hcase : (¬ (k : Int) < (m.size : Int) - 1 ∧ decide ((k : Int) < (m.size : Int) - 1) = false) ∨ ((k : Int) < (m.size : Int) - 1 ∧ decide ((k : Int) < (m.size : Int) - 1) = true ∧ (((m[k]'(by omega)).toNat : Int) == 48) = false) := by
        by_cases hlt : k + 1 < m.size
        · refine .inr ⟨by omega, decide_eq_true (by omega), beq_eq_false_iff_ne.2 (fun e => hgo ⟨hlt, by omega⟩)⟩
        · exact .inl ⟨by omega, decide_eq_false (by omega)⟩
      clear hgo hMl hMs
      rcases hcase with ⟨hg, hdg⟩ | ⟨hg, hdg, he⟩
      all_goals
        by_cases h16 : M.size = 16
        · have e16 : ((M.size : Int) != 16) = false := by rw [bne_eq_false_iff_eq]; omega
          have H16 : Hid (M.size = 16) := h16
          have hle : M.size ≤ 16 := by omega
          have hge : 16 ≤ M.size := by omega
          clear h16
          go_wp2
          go_loopg [4] 16 (fun g i wr => ∃ j q : Nat, j ≤ 16 ∧ g = 16 - j ∧ i = .int .i64 j ∧ wr = w.drewN q ∧ ∀ t, t < j → M.data.toList[t]? = Dec.T[t]?)
          case atStart => exact ⟨0, 0, by omega, rfl, rfl, rfl, fun t ht => by omega⟩
          case round =>
            obtain ⟨j, q, hj, hgk, rfl, rfl, heq⟩ := hrel
            have HG : Hid (gk = 16 - j) := hgk
            have HE : Hid (∀ t, t < j → M.data.toList[t]? = Dec.T[t]?) := heq
            clear hgk heq
            by_cases hlt : j < 16
            · have hjs : j < M.size := by omega
              have hj1 : (j : Int) < (M.size : Int) := by omega
              have hj2 : (j : Int) < 16 := by omega
              have HA := list_at M j hjs
              have HT := T_at j hlt
              by_cases hsame : (M[j]'hjs).toNat = ((⟨#[57, 48, 48, 55, 49, 57, 57, 50, 53, 52, 55, 52, 48, 57, 57, 50]⟩ : ByteArray)[j]'(by show j < 16; exact hlt)).toNat
              · have en : (((M[j]'hjs).toNat : Int) != (((⟨#[57, 48, 48, 55, 49, 57, 57, 50, 53, 52, 55, 52, 48, 57, 57, 50]⟩ : ByteArray)[j]'(by show j < 16; exact hlt)).toNat : Int)) = false := by rw [bne_eq_false_iff_eq]; omega
                have HS : Hid (M.data.toList[j]? = Dec.T[j]?) := by
                  show M.data.toList[j]? = Dec.T[j]?
                  rw [HA, HT]; exact congrArg some (UInt8.toNat_inj.1 hsame)
                clear HA HT hsame
                go_wp2
                go_quiet (fail)
                go_wp2
                go_roundg (16 - (j + 1))
                case measure => have := HG.out; omega
                case rel =>
                  refine ⟨j + 1, _, by omega, rfl, by go_num, rfl, fun t ht => ?_⟩
                  by_cases htj : t < j
                  · exact HE.out t htj
                  · obtain rfl : t = j := by omega
                    exact HS.out
              · have en : (((M[j]'hjs).toNat : Int) != (((⟨#[57, 48, 48, 55, 49, 57, 57, 50, 53, 52, 55, 52, 48, 57, 57, 50]⟩ : ByteArray)[j]'(by show j < 16; exact hlt)).toNat : Int)) = true := bne_iff_ne.2 (by omega)
                have HX : Hid (decide (((⟨#[57, 48, 48, 55, 49, 57, 57, 50, 53, 52, 55, 52, 48, 57, 57, 50]⟩ : ByteArray)[j]'(by show j < 16; exact hlt)).toNat < (M[j]'hjs).toNat) = R) := by
                  have hc := Dec.cmp_at j M.data.toList Dec.T (by rw [← Lib.size_eq, H16.out]; rfl) HDM.out Dec.T_dg HE.out _ _ HA HT hsame
                  rw [Dec.T_val] at hc
                  show decide _ = R
                  rw [← HV.out]
                  exact decide_eq_decide.2 hc
                clear HA HT hsame
                go_wp2
                go_quiet (fail)
                go_wp2
                go_quiet (fail)
                go_wp2
                go_ret
                exact ⟨by rw [← HX.out]; rfl, by repeat (first | exact Below.refl _ _ | apply below_drawn)⟩
            · obtain rfl : j = 16 := by omega
              have HX : Hid (R = false) := by
                show R = false
                have hl : M.data.toList = Dec.T := by
                  apply List.ext_getElem?
                  intro t
                  by_cases ht : t < 16
                  · exact HE.out t ht
                  · rw [List.getElem?_eq_none (by rw [← Lib.size_eq, H16.out]; omega), List.getElem?_eq_none (by show 16 ≤ t; omega)]
                rw [← HV.out, hl, Dec.T_val]
                simp
              have hj3 : ¬ (16 : Int) < (M.size : Int) := by omega
              have hj4 : decide ((16 : Int) < (M.size : Int)) = false := decide_eq_false hj3
              clear hlt hj
              go_wp2
              go_ret
              exact ⟨by rw [HX.out]; rfl, below_drawn (Below.refl _ _) _⟩
        · have e16 : ((M.size : Int) != 16) = true := bne_iff_ne.2 (by omega)
          have HX : Hid (decide ((16 : Int) < (M.size : Int)) = R) := by
            show decide _ = R
            rw [← HV.out]
            apply decide_eq_decide.2
            have hsz := Lib.size_eq M
            constructor
            · intro h
              exact Dec.long_above HDM.out (HF.out (by omega)) (by omega)
            · intro h
              apply Classical.byContradiction
              intro hn
              exact Dec.short_below HDM.out (by omega) h
          clear h16
          go_wp2
          go_ret
          exact ⟨by rw [← HX.out]; rfl, Below.refl _ _⟩
end Go.Proofs.Qxb6601452aDoor
