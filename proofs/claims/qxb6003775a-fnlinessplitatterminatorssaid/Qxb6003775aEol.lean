/-
  termLen (9), indexEOLOrCR (20), indexEOL (19), and the shims (10, 11): their contracts.
-/
import Derived.Test.Qxb6003775aEnds
namespace Go.Proofs.Qxb6003775a
open Go.RowKit

/-- the cell at place j, its value under a name -/
theorem cell_at {w : World} {b o n : Nat} {xs : List Int} (hc : ∀ j, j < n → w.cell? ⟨b, o + j, none⟩ = some (.int .u8 (xs.getD j 0))) (j : Nat) (hj : j < n) :
    ∃ v, w.cell? ⟨b, o + j, none⟩ = some (.int .u8 v) ∧ Hid (v = Pl.b xs j) := ⟨_, hc _ hj, by simp [Hid, Pl.b]⟩

theorem term_some (b o n c : Nat) (xs : List Int) (l : Bool) (j : Nat) (w : World) (HL : Hid (xs.length = n)) (hcap : n ≤ 1048576)
    (hc : ∀ j, j < n → w.cell? ⟨b, o + j, none⟩ = some (.int .u8 (xs.getD j 0))) (hj : j < n) :
    Calls Try.prog 9 #[.slice (some ⟨b, o, none⟩) n c, .int .i64 (j : Int), .bool l] w fun e w' => e = .returned (.int .i64 (Pl.tl xs l j)) ∧ w = w' := by
  obtain ⟨v, hv, HV⟩ := cell_at hc j hj
  by_cases h10 : v = 10
  · have e1 : (v == 10) = true := by simp [h10]
    have E : Hid (Pl.tl xs l j = 1) := by unfold Pl.tl; rw [← HV.out, if_pos h10]; rfl
    clear hc h10
    go_enter Try.func9, Try.ntmps9
    go_wp2
    go_ret
    exact ⟨by rw [E.out]; rfl, rfl⟩
  · have e1 : (v == 10) = false := by simp [h10]
    by_cases h13 : v = 13
    · have e2 : (v == 13) = true := by simp [h13]
      by_cases hlt : j + 1 < n
      · obtain ⟨v2, hv2, HV2⟩ := cell_at hc (j + 1) hlt
        have ht : decide ((j : Int) + 1 < (n : Int)) = true := by simp; omega
        have ht2 : (j : Int) + 1 < (n : Int) := by omega
        by_cases h2 : v2 = 10
        · have e3 : (v2 == 10) = true := by simp [h2]
          have E : Hid (Pl.tl xs l j = 2) := by unfold Pl.tl; rw [← HV.out, ← HV2.out, if_neg h10, if_pos h13, if_pos h2]; rfl
          clear hc h10 h13 h2
          go_enter Try.func9, Try.ntmps9
          go_wp2
          go_ret
          exact ⟨by rw [E.out]; rfl, rfl⟩
        · have e3 : (v2 == 10) = false := by simp [h2]
          have E : Hid (Pl.tl xs l j = if l = true then 1 else 0) := by unfold Pl.tl; rw [← HV.out, ← HV2.out, if_neg h10, if_pos h13, if_neg h2]; rfl
          clear hc h10 h13 h2
          cases l
          all_goals
            go_enter Try.func9, Try.ntmps9
            go_wp2
            go_ret
            exact ⟨by rw [E.out]; rfl, rfl⟩
      · have ht : decide ((j : Int) + 1 < (n : Int)) = false := by simp; omega
        have ht2 : ¬ (j : Int) + 1 < (n : Int) := by omega
        have E : Hid (Pl.tl xs l j = if l = true then 1 else 0) := by
          unfold Pl.tl; rw [← HV.out, if_neg h10, if_pos h13, if_neg (by rw [Pl.b_end (by rw [HL.out]; omega)]; omega)]; rfl
        clear hc h10 h13
        cases l
        all_goals
          go_enter Try.func9, Try.ntmps9
          go_wp2
          go_ret
          exact ⟨by rw [E.out]; rfl, rfl⟩
    · have e2 : (v == 13) = false := by simp [h13]
      have E : Hid (Pl.tl xs l j = 0) := by unfold Pl.tl; rw [← HV.out, if_neg h10, if_neg h13]; rfl
      clear hc h10 h13
      go_enter Try.func9, Try.ntmps9
      go_wp2
      go_ret
      exact ⟨by rw [E.out]; rfl, rfl⟩

theorem eolcr_first {xs : List Int} {t s : Nat} {r : Int} (hs : t + s ≤ xs.length) (h : Pl.IsIdx ((xs.drop t).take s) 10 r) :
    ∃ m : Nat, m ≤ s ∧ (∀ j, j < m → Pl.b xs (t + j) ≠ 10) ∧ ((r = -1 ∧ m = s) ∨ (r = m ∧ m < s ∧ Pl.b xs (t + m) = 10)) := by
  have hlen : ((xs.drop t).take s).length = s := by simp; omega
  rcases h with ⟨e, h⟩ | ⟨k, hk, e, hb, h⟩
  · refine ⟨s, Nat.le_refl _, fun j hj => ?_, .inl ⟨e, rfl⟩⟩
    have := h j (by omega)
    rwa [Pl.b_take hj, Pl.b_drop] at this
  · rw [Pl.b_take (by omega), Pl.b_drop] at hb
    refine ⟨k, by omega, fun j hj => ?_, .inr ⟨e, by omega, hb⟩⟩
    have := h j hj
    rwa [Pl.b_take (by omega), Pl.b_drop] at this

theorem eolcr_second {xs : List Int} {t s m : Nat} {r : Int} (hs : t + s ≤ xs.length) (hm : m ≤ s) (hcl : Pl.clr xs t) (hno : ∀ j, j < m → Pl.b xs (t + j) ≠ 10) (h : Pl.IsIdx (((xs.drop t).take s).take m) 13 r) :
    (r = -1 ∧ Pl.clr xs (t + m)) ∨ ∃ k : Nat, r = k ∧ k < m ∧ Pl.b xs (t + k) = 13 ∧ Pl.clr xs (t + k) := by
  have hlen : (((xs.drop t).take s).take m).length = m := by simp; omega
  have hat : ∀ j, j < m → Pl.b (((xs.drop t).take s).take m) j = Pl.b xs (t + j) := fun j hj => by rw [Pl.b_take hj, Pl.b_take (by omega), Pl.b_drop]
  have key : ∀ k, k ≤ m → (∀ j, j < k → Pl.b xs (t + j) ≠ 13) → Pl.clr xs (t + k) := fun k hk h13 j hj => by
    by_cases hjt : j < t
    · exact hcl j hjt
    · have e : t + (j - t) = j := by omega
      have a1 := hno (j - t) (by omega)
      have a2 := h13 (j - t) (by omega)
      rw [e] at a1 a2
      exact ⟨a1, a2⟩
  rcases h with ⟨e, h⟩ | ⟨k, hk, e, hb, h⟩
  · exact .inl ⟨e, key m (Nat.le_refl _) fun j hj => by rw [← hat j hj]; exact h j (by omega)⟩
  · rw [hat k (by omega)] at hb
    exact .inr ⟨k, e, by omega, hb, key k (by omega) fun j hj => by rw [← hat j (by omega)]; exact h j hj⟩

/-- 's[t:t+s]', not empty -/
theorem slice_mid (b o n c t s : Nat) (h0 : 0 < s) (hc : t + s ≤ c) (W : World) : (Instr.slice 22 (.slice (some ⟨b, o, none⟩) n c) (some (.int .i64 (t : Int))) (some (.int .i64 ((t : Int) + (s : Int)))) none).run Try.prog W = .ok (.slice (some ⟨b, o + t, none⟩) s (c - t)) W := by
  have hz : ∀ w, (sizeOf (Try.prog.elem 22)).run Try.prog w = .ok 1 w := fun w => by kernel_rfl
  rw [run_slice_lh W 22 _ n c (by kernel_rfl) .i64 .i64 t (t + s) (by omega) (by omega) (by omega), hz]
  simp only [Result.andThen, sliced, Int.toNat_natCast]
  rw [show ((t : Int) + (s : Int)).toNat = t + s by omega, if_neg (by omega)]
  simp [Addr.add]

/-- 's[:m]' -/
theorem slice_to (b o n c m : Nat) (hc : m ≤ c) (W : World) : (Instr.slice 22 (.slice (some ⟨b, o, none⟩) n c) none (some (.int .i64 (m : Int))) none).run Try.prog W = .ok (.slice (some ⟨b, o, none⟩) m c) W := by
  have hz : ∀ w, (sizeOf (Try.prog.elem 22)).run Try.prog w = .ok 1 w := fun w => by kernel_rfl
  rw [run_slice_h W 22 _ n c (by kernel_rfl) .i64 m (by omega) (by omega), hz]
  simp [Result.andThen, sliced, Addr.add]

theorem stretch (t n : Nat) (h : t < n) : ∃ (M : Int) (s : Nat), 0 < s ∧ t + s ≤ n ∧ (if 2 * (t : Int) < 64 then (64 : Int) else 2 * (t : Int)) = M ∧ (if M < (n : Int) then M else (n : Int)) = (t : Int) + (s : Int) := by
  refine ⟨_, (if (if 2 * (t : Int) < 64 then (64 : Int) else 2 * (t : Int)) < (n : Int) then (if 2 * (t : Int) < 64 then (64 : Int) else 2 * (t : Int)) else (n : Int)).toNat - t, ?_, ?_, rfl, ?_⟩
  all_goals (split <;> split <;> omega)

theorem BL_mid {w : World} {b o n c : Nat} {xs : List Int} (h : BL w (some ⟨b, o, none⟩) n c xs) (t s : Nat) (h0 : 0 < s) (hs : t + s ≤ n) : BL w (some ⟨b, o + t, none⟩) s (c - t) ((xs.drop t).take s) :=
  (h.drop t (by omega) (o + t) (fun _ => rfl)).take s (by omega)

set_option maxHeartbeats 1000000 in
theorem eolcr_some (b o n c : Nat) (xs : List Int) (w : World) (h : BL w (some ⟨b, o, none⟩) n c xs) (hc : ∀ j, j < n → w.cell? ⟨b, o + j, none⟩ = some (.int .u8 (xs.getD j 0))) :
    Calls Try.prog 20 #[.slice (some ⟨b, o, none⟩) n c] w fun e w' => ∃ i k : Int, e = .returned (.tuple #[.int .i64 i, .int .i64 k]) ∧ Pl.FT xs true i k ∧ w = w' := by
  have hl := h.len
  have hle := h.le
  have hcap := h.cap
  have HL : Hid (xs.length = n) := hl
  clear hl
  go_enter Try.func20, Try.ntmps20
  go_wp2
  go_loop [4, 5] (fun f t => ∃ k : Nat, k ≤ n ∧ f = .int .i64 k ∧ t = .int .i64 k ∧ Pl.clr xs k) (fun _ t => n - (intOf t).toNat)
  case atStart => exact ⟨0, Nat.zero_le _, rfl, rfl, fun j hj => by omega⟩
  case round =>
    obtain ⟨t, hk, rfl, rfl, hcl⟩ := hrel
    have HC : Hid (Pl.clr xs t) := hcl
    clear hcl
    by_cases hlt : t < n
    · obtain ⟨M, s, h0, hs, hmx, hmn⟩ := stretch t n hlt
      have hm1 := slice_mid b o n c t s h0 (by omega)
      have hbl := (BL_mid h t s h0 hs)
      go_wp2_with fail
      refine (idx_any _ _ _ _ _ hbl 10 (by omega)).mono ?_
      rintro e w' ⟨r, rfl, hr, rfl⟩
      obtain ⟨m, hm, hno, hcase⟩ := eolcr_first (by rw [HL.out]; exact hs) hr
      have HNO : Hid (∀ j, j < m → Pl.b xs (t + j) ≠ 10) := hno
      have ht2 := slice_to b (o + t) s (c - t) m (by omega)
      have hbl2 := hbl.take m hm
      clear hr hno hbl hm1 hmx hmn
      rcases hcase with ⟨rfl, e⟩ | ⟨rfl, hms, h10⟩
      · subst e
        go_wp2_with fail
        refine (idx_any _ _ _ _ _ hbl2 13 (by omega)).mono ?_
        rintro e w' ⟨r, rfl, hr, rfl⟩
        rcases eolcr_second (by rw [HL.out]; exact hs) hm HC.out HNO.out hr with ⟨rfl, hcl⟩ | ⟨k, rfl, hk2, h13, hcl⟩
        all_goals clear hr hbl2 ht2
        · have HCL : Hid (Pl.clr xs (t + m)) := hcl
          clear hcl hc
          go_wp2
          go_round
          case rel => exact ⟨t + m, hs, by go_num, by go_num, HCL.out⟩
          case measure => simp [intOf]; omega
        · -- a carriage return at t + k
          have HB : Hid (Pl.b xs (t + k) = 13) := h13
          have HCL : Hid (Pl.clr xs (t + k)) := hcl
          clear h13 hcl
          by_cases hend : k + t + 1 < n
          · obtain ⟨v, hv, HV⟩ := cell_at hc (k + t + 1) hend
            have hlt2 : (k : Int) + (t : Int) + 1 < (n : Int) := by omega
            have hd : decide ((k : Int) + (t : Int) + 1 < (n : Int)) = true := by simp; omega
            clear hc
            by_cases h10 : v = 10
            · have e1 : (v == 10) = true := by simp [h10]
              have HF : Hid (Pl.FT xs true ((t + k : Nat) : Int) 2) := Pl.ft_crlf HCL.out (by rw [HL.out]; omega) HB.out (by rw [show t + k + 1 = k + t + 1 by omega, ← HV.out]; exact h10)
              clear h10
              go_wp2
              go_ret2
              exact ⟨_, _, rfl, by have := HF.out; rwa [show ((t + k : Nat) : Int) = (k : Int) + (t : Int) by omega] at this, rfl⟩
            · have e1 : (v == 10) = false := by simp [h10]
              have HF : Hid (Pl.FT xs true ((t + k : Nat) : Int) 1) := Pl.ft_cr HCL.out (by rw [HL.out]; omega) HB.out (by rw [show t + k + 1 = k + t + 1 by omega, ← HV.out]; exact h10)
              clear h10
              go_wp2
              go_ret2
              exact ⟨_, _, rfl, by have := HF.out; rwa [show ((t + k : Nat) : Int) = (k : Int) + (t : Int) by omega] at this, rfl⟩
          · have hlt2 : ¬ (k : Int) + (t : Int) + 1 < (n : Int) := by omega
            have hd : decide ((k : Int) + (t : Int) + 1 < (n : Int)) = false := by simp; omega
            have HF : Hid (Pl.FT xs true ((t + k : Nat) : Int) 1) := Pl.ft_cr HCL.out (by rw [HL.out]; omega) HB.out (by rw [Pl.b_end (by rw [HL.out]; omega)]; omega)
            clear hc
            go_wp2
            go_ret2
            exact ⟨_, _, rfl, by have := HF.out; rwa [show ((t + k : Nat) : Int) = (k : Int) + (t : Int) by omega] at this, rfl⟩
      · have H10 : Hid (Pl.b xs (t + m) = 10) := h10
        clear h10
        have hms2 : (m : Int) < (s : Int) := by omega
        go_wp2_with fail
        refine (idx_any _ _ _ _ _ hbl2 13 (by omega)).mono ?_
        rintro e w' ⟨r, rfl, hr, rfl⟩
        rcases eolcr_second (by rw [HL.out]; exact hs) hm HC.out HNO.out hr with ⟨rfl, hcl⟩ | ⟨k, rfl, hk2, h13, hcl⟩
        all_goals clear hr hbl2 ht2
        · have HF : Hid (Pl.FT xs true ((t + m : Nat) : Int) 1) := Pl.ft_lf hcl (by rw [HL.out]; omega) H10.out
          clear hcl hc
          go_wp2
          go_ret2
          exact ⟨_, _, rfl, by have := HF.out; rwa [show ((t + m : Nat) : Int) = (t : Int) + (m : Int) by omega] at this, rfl⟩
        · -- a carriage return at t + k
          have HB : Hid (Pl.b xs (t + k) = 13) := h13
          have HCL : Hid (Pl.clr xs (t + k)) := hcl
          clear h13 hcl
          by_cases hend : k + t + 1 < n
          · obtain ⟨v, hv, HV⟩ := cell_at hc (k + t + 1) hend
            have hlt2 : (k : Int) + (t : Int) + 1 < (n : Int) := by omega
            have hd : decide ((k : Int) + (t : Int) + 1 < (n : Int)) = true := by simp; omega
            clear hc
            by_cases h10 : v = 10
            · have e1 : (v == 10) = true := by simp [h10]
              have HF : Hid (Pl.FT xs true ((t + k : Nat) : Int) 2) := Pl.ft_crlf HCL.out (by rw [HL.out]; omega) HB.out (by rw [show t + k + 1 = k + t + 1 by omega, ← HV.out]; exact h10)
              clear h10
              go_wp2
              go_ret2
              exact ⟨_, _, rfl, by have := HF.out; rwa [show ((t + k : Nat) : Int) = (k : Int) + (t : Int) by omega] at this, rfl⟩
            · have e1 : (v == 10) = false := by simp [h10]
              have HF : Hid (Pl.FT xs true ((t + k : Nat) : Int) 1) := Pl.ft_cr HCL.out (by rw [HL.out]; omega) HB.out (by rw [show t + k + 1 = k + t + 1 by omega, ← HV.out]; exact h10)
              clear h10
              go_wp2
              go_ret2
              exact ⟨_, _, rfl, by have := HF.out; rwa [show ((t + k : Nat) : Int) = (k : Int) + (t : Int) by omega] at this, rfl⟩
          · have hlt2 : ¬ (k : Int) + (t : Int) + 1 < (n : Int) := by omega
            have hd : decide ((k : Int) + (t : Int) + 1 < (n : Int)) = false := by simp; omega
            have HF : Hid (Pl.FT xs true ((t + k : Nat) : Int) 1) := Pl.ft_cr HCL.out (by rw [HL.out]; omega) HB.out (by rw [Pl.b_end (by rw [HL.out]; omega)]; omega)
            clear hc
            go_wp2
            go_ret2
            exact ⟨_, _, rfl, by have := HF.out; rwa [show ((t + k : Nat) : Int) = (k : Int) + (t : Int) by omega] at this, rfl⟩
    · obtain rfl : t = n := by omega
      clear hlt hk hc h
      go_wp2
      go_ret2
      exact ⟨-1, 0, rfl, Pl.ft_end (by rw [HL.out]; exact HC.out), rfl⟩
end Go.Proofs.Qxb6003775a
