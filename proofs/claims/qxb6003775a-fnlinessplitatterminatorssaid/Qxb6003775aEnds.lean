/-
  endsAtCR (function 21) and its shim (13).
-/
import Derived.Test.Qxb6003775aClone
namespace Go.Proofs.Qxb6003775a
open Go.RowKit

theorem BL.drop {w : World} {b o n c : Nat} {xs : List Int} (h : BL w (some ⟨b, o, none⟩) n c xs) (k : Nat) (hk : k ≤ n) (o' : Nat) (ho : k < n → o' = o + k) :
    BL w (some ⟨b, o', none⟩) (n - k) (c - k) (xs.drop k) := by
  obtain ⟨hl, hle, hcap, hby, hm⟩ := h
  refine ⟨by simp [hl], by omega, by omega, fun x hx => hby x (List.mem_of_mem_drop hx), .inr ⟨b, o', rfl, fun j hj => ?_⟩⟩
  rcases hm with ⟨e, _⟩ | ⟨b', o'', e, hc⟩
  · cases e
  · cases e
    have := hc (k + j) (by omega)
    rw [ho (by omega), Nat.add_assoc, this]
    simp [List.getElem?_drop]

theorem BL.take {w : World} {b o n c : Nat} {xs : List Int} (h : BL w (some ⟨b, o, none⟩) n c xs) (k : Nat) (hk : k ≤ n) :
    BL w (some ⟨b, o, none⟩) k c (xs.take k) := by
  obtain ⟨hl, hle, hcap, hby, hm⟩ := h
  refine ⟨by simp [hl]; omega, by omega, by omega, fun x hx => hby x (List.mem_of_mem_take hx), .inr ⟨b, o, rfl, fun j hj => ?_⟩⟩
  rcases hm with ⟨e, _⟩ | ⟨b', o'', e, hc⟩
  · cases e
  · cases e
    rw [hc j (by omega)]
    simp [List.getElem?_take_of_lt hj]

/-- one step of endsAtCR's search: the place i + r of the next carriage return -/
theorem ends_step {xs : List Int} {i : Nat} {r : Int} (h : Pl.IsIdx (xs.drop i) 13 r) (hi : i ≤ xs.length) (hn : ∀ j, j < i → ¬ Pl.lcr xs j) :
    (r = -1 ∧ ¬ Pl.EC xs) ∨ ∃ k : Nat, r = k ∧ i + k < xs.length ∧ Pl.b xs (i + k) = 13 ∧ (∀ j, j < i + k → ¬ Pl.lcr xs j) := by
  rcases h with ⟨e, h⟩ | ⟨k, hk, e, hb, h⟩
  · refine .inl ⟨e, fun ⟨j, hj, hl⟩ => ?_⟩
    by_cases hji : j < i
    · exact hn j hji hl
    · have := h (j - i) (by rw [List.length_drop]; omega)
      rw [Pl.b_drop, show i + (j - i) = j by omega] at this
      exact this hl.1
  · rw [List.length_drop] at hk
    rw [Pl.b_drop] at hb
    refine .inr ⟨k, e, by omega, hb, fun j hj hl => ?_⟩
    by_cases hji : j < i
    · exact hn j hji hl
    · have := h (j - i) (by omega)
      rw [Pl.b_drop, show i + (j - i) = j by omega] at this
      exact this hl.1

/-- 's[k:]' of a slice that is not nil -/
theorem slice_from (b o n c k : Nat) (hk : k ≤ n) (hle : n ≤ c) : ∃ o', (k < n → o' = o + k) ∧ ∀ W, (Instr.slice 22 (.slice (some ⟨b, o, none⟩) n c) (some (.int .i64 k)) none none).run Try.prog W = .ok (.slice (some ⟨b, o', none⟩) (n - k) (c - k)) W := by
  refine ⟨if c = k then o else o + k, fun h => by rw [if_neg (by omega)], fun W => ?_⟩
  have hz : ∀ w, (sizeOf (Try.prog.elem 22)).run Try.prog w = .ok 1 w := fun w => by kernel_rfl
  rw [run_slice_l W 22 _ n c (by kernel_rfl) .i64 k (by omega) (by omega), hz]
  simp only [Result.andThen, sliced, Int.toNat_natCast]
  by_cases h : c = k
  · simp [h]
  · simp [h, Addr.add]

theorem idx_nil {c r : Int} (h : Pl.IsIdx [] c r) : r = -1 := by
  rcases h with ⟨e, _⟩ | ⟨j, hj, _⟩
  · exact e
  · simp at hj

theorem ends_nil (w : World) (h0 : BL w none 0 0 []) :
    Calls Try.prog 21 #[.slice none 0 0, .bool true] w fun e w' => e = .returned (.bool false) ∧ w = w' := by
  go_enter Try.func21, Try.ntmps21
  go_wp2
  refine wp_loop_rounds 1 ?_
  rw [rounds_succ]
  go_wp2_with (go_at_call 22; refine (idx_any _ _ _ _ _ h0 13 (by omega)).mono ?_; rintro e w' ⟨r, rfl, hr, rfl⟩; have hr' := idx_nil hr; clear hr; subst hr')
  go_ret
  exact ⟨rfl, rfl⟩

set_option maxHeartbeats 1000000 in
theorem ends_some (b o n c : Nat) (xs : List Int) (w : World) (h : BL w (some ⟨b, o, none⟩) n c xs) (hc : ∀ j, j < n → w.cell? ⟨b, o + j, none⟩ = some (.int .u8 (xs.getD j 0))) :
    Calls Try.prog 21 #[.slice (some ⟨b, o, none⟩) n c, .bool true] w fun e w' => ∃ r : Bool, e = .returned (.bool r) ∧ (r = true ↔ Pl.EC xs) ∧ w = w' := by
  have hl := h.len
  have hle := h.le
  have hcap := h.cap
  have HL : Hid (xs.length = n) := hl
  clear hl
  go_enter Try.func21, Try.ntmps21
  go_wp2
  go_loop [5] (fun i => ∃ k : Nat, k ≤ n ∧ i = .int .i64 k ∧ ∀ j, j < k → ¬ Pl.lcr xs j) (fun i => n - (intOf i).toNat)
  case atStart => exact ⟨0, Nat.zero_le _, rfl, fun j hj => by omega⟩
  case round =>
    obtain ⟨k, hk, rfl, hno⟩ := hrel
    have HN : Hid (∀ j, j < k → ¬ Pl.lcr xs j) := hno
    clear hno
    obtain ⟨o', ho', hsl⟩ : ∃ o', (k < n → o' = o + k) ∧ ∀ W, (Instr.slice 22 (.slice (some ⟨b, o, none⟩) n c) (some (.int .i64 k)) none none).run Try.prog W = .ok (.slice (some ⟨b, o', none⟩) (n - k) (c - k)) W := slice_from b o n c k hk hle
    have hb := h.drop k hk o' ho'
    clear ho'
    go_wp2_with fail
    refine (idx_any _ _ _ _ _ hb 13 (by omega)).mono ?_
    rintro e w' ⟨r, rfl, hr, rfl⟩
    rcases ends_step hr (by rw [HL.out]; exact hk) HN.out with ⟨rfl, hec⟩ | ⟨m, rfl, hm, h13, hno2⟩
    · have HE : Hid (¬ Pl.EC xs) := hec
      clear hec hr hb
      go_wp2
      go_ret
      exact ⟨false, rfl, by simp [HE.out], rfl⟩
    · clear hr hb
      rw [HL.out] at hm
      have H13 : Hid (Pl.b xs (k + m) = 13) := h13
      have H2 : Hid (∀ j, j < k + m → ¬ Pl.lcr xs j) := hno2
      clear h13 hno2
      by_cases hend : k + (m + 1) = n
      · have HE : Hid (Pl.EC xs) := ⟨k + m, by rw [HL.out]; exact hm, H13.out, by rw [Pl.b_end (by rw [HL.out]; omega)]; omega⟩
        have ht : (((k : Int) + ((m : Int) + 1)) == (n : Int)) = true := beq_iff_eq.2 (by omega)
        clear hc
        go_wp2
        go_ret
        exact ⟨true, rfl, by simp [HE.out], rfl⟩
      · obtain ⟨v, hcell, HV⟩ : ∃ v, w.cell? ⟨b, o + (k + (m + 1)), none⟩ = some (.int .u8 v) ∧ Hid (v = Pl.b xs (k + (m + 1))) := ⟨_, hc _ (by omega), by simp [Hid, Pl.b]⟩
        have ht : (((k : Int) + ((m : Int) + 1)) == (n : Int)) = false := beq_eq_false_iff_ne.2 (by omega)
        have hlt : (k : Int) + ((m : Int) + 1) < n := by omega
        clear hc
        by_cases h10 : v = 10
        · have hb10 : (v != 10) = false := by simp [h10]
          have H10 : Hid (v = 10) := h10
          clear h10
          go_wp2
          go_round
          case rel =>
            refine ⟨k + (m + 1), by omega, by go_num, fun j hj hl => ?_⟩
            by_cases hj2 : j < k + m
            · exact H2.out j hj2 hl
            · obtain rfl : j = k + m := by omega
              exact hl.2 (by rw [Nat.add_assoc, ← HV.out]; exact H10.out)
          case measure => simp [intOf]; omega
        · have hb10 : (v != 10) = true := by simp [h10]
          have HE : Hid (Pl.EC xs) := ⟨k + m, by rw [HL.out]; exact hm, H13.out, by rw [Nat.add_assoc, ← HV.out]; exact h10⟩
          clear h10
          go_wp2
          go_ret
          exact ⟨true, rfl, by simp [HE.out], rfl⟩

theorem ends_not (a : Option Addr) (n c : Nat) (w : World) :
    Calls Try.prog 21 #[.slice a n c, .bool false] w fun e w' => e = .returned (.bool false) ∧ w = w' := by
  go_enter Try.func21, Try.ntmps21
  go_wp2
  refine wp_loop_rounds 1 ?_
  rw [rounds_succ]
  go_wp2
  go_ret
  exact ⟨rfl, rfl⟩

/-- endsAtCR: true exactly where loneCR is set and a carriage return stands that no newline follows. -/
theorem ends_any (a : Option Addr) (n c : Nat) (xs : List Int) (l : Bool) (w : World) (h : BL w a n c xs) :
    Calls Try.prog 21 #[.slice a n c, .bool l] w fun e w' => ∃ r : Bool, e = .returned (.bool r) ∧ (r = true ↔ l = true ∧ Pl.EC xs) ∧ w = w' := by
  cases l with
  | false => exact (ends_not a n c w).mono fun e w' ⟨he, hw⟩ => ⟨false, he, by simp, hw⟩
  | true =>
    rcases h.mem with ⟨rfl, rfl, rfl⟩ | ⟨b, o, rfl, hc⟩
    · have hx : xs = [] := List.length_eq_zero_iff.1 h.len
      subst hx
      exact (ends_nil w h).mono fun e w' ⟨he, hw⟩ => ⟨false, he, by simp [Pl.EC], hw⟩
    · exact (ends_some b o n c xs w h hc).mono fun e w' ⟨r, he, hr, hw⟩ => ⟨r, he, by simpa using hr, hw⟩

theorem zends_any (a : Option Addr) (n c : Nat) (xs : List Int) (l : Bool) (w : World) (h : BL w a n c xs) :
    Calls Try.prog 13 #[.slice a n c, .bool l] w fun e w' => ∃ r : Bool, e = .returned (.bool r) ∧ (r = true ↔ l = true ∧ Pl.EC xs) ∧ w = w' := by
  go_enter Try.func13, Try.ntmps13
  go_wp2_with fail
  refine (ends_any _ _ _ _ _ _ h).mono ?_
  rintro e w' ⟨r, rfl, hr, rfl⟩
  have HR : Hid (r = true ↔ l = true ∧ Pl.EC xs) := hr
  clear hr h
  go_wp2
  go_ret
  exact ⟨r, rfl, HR.out, rfl⟩
end Go.Proofs.Qxb6003775a
