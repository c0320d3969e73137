/-
  The walk of FnEndsAtCRKeepsLines (function 5).
-/
import Derived.Test.Qxb6003775aEol2
namespace Go.Proofs.Qxb6003775a
open Go.RowKit

theorem ll_agree {xs : List Int} {k : Nat} {f : Bool} (hf : f = false → ¬ Pl.EC xs) {m m' : Int} (h : Pl.LL (xs.drop k) true m) (h' : Pl.LL (xs.drop k) f m') : m = m' := by
  cases f with
  | true => exact Pl.LL_unique h h'
  | false => exact Pl.LL_unique (Pl.LL_same (fun he => hf rfl (Pl.EC_drop he)) h) h'

/-- 's[k:]' once more, the sum of two cuts -/
theorem drop_add' (xs : List Int) (i j : Nat) : (xs.drop i).drop j = xs.drop (i + j) := by rw [List.drop_drop]

set_option maxHeartbeats 2000000 in
theorem law5 (a0 : Option Addr) (len0 cap0 : Nat) (xs : List Int) (w : World) (hcame : Came w a0 len0 xs) :
    Calls Try.prog 5 #[.slice a0 len0 cap0] w fun e w' => e = .returned (.bool true) ∧ Below w.heap.size w w' := by
  by_cases hn : len0 ≤ 1048576
  · have hd : decide (len0 ≤ 1048576) = true := by simp [hn]
    go_enter Try.func5, Try.ntmps5
    go_wp2_with fail
    refine (zz14 _ _ _ _).mono ?_
    rintro e w' ⟨rfl, rfl⟩
    go_wp2_with fail
    refine (clone_any _ _ _ _ _ hcame hn).mono ?_
    rintro e w1 ⟨a', c', rfl, hbl, hbelow⟩
    clear hcame
    go_wp2_with fail
    refine (zends_any _ _ _ _ _ _ hbl).mono ?_
    rintro e w' ⟨f, rfl, hf, rfl⟩
    have HF : Hid (f = false → ¬ Pl.EC xs) := fun e he => by rw [e] at hf; simp [he] at hf
    clear hf
    have HL : Hid (xs.length = len0) := hbl.len
    go_wp2_with fail
    go_loop [4] (fun r => ∃ (a : Option Addr) (k m c : Nat), r = .slice a m c ∧ BL w1 a m c (xs.drop k)) (fun r => match r with | .slice _ m _ => m | _ => 0)
    case atStart => exact ⟨a', 0, len0, c', rfl, by simpa using hbl⟩
    case round =>
      obtain ⟨a, k, m, c, rfl, hb⟩ := hrel
      have hmc := hb.le
      have hcc := hb.cap
      by_cases hm : 0 < m
      · rcases hb.mem with ⟨_, h0, _⟩ | ⟨b, o, rfl, hc⟩
        · omega
        clear hc
        have HM : Hid ((xs.drop k).length = m) := hb.len
        go_wp2_with fail
        refine (line_any _ _ _ _ _ _ hb).mono ?_
        rintro e w' ⟨x, rfl, hx, rfl⟩
        go_wp2_with fail
        refine (line_any _ _ _ _ _ _ hb).mono ?_
        rintro e w' ⟨y, rfl, hy, rfl⟩
        obtain rfl := ll_agree HF.out hx hy
        obtain ⟨g1, g2⟩ := Pl.LL_bounds hx (by rw [HM.out]; exact hm)
        rw [HM.out] at g2
        clear hx hy
        obtain ⟨q, rfl⟩ : ∃ q : Nat, x = q := ⟨x.toNat, by omega⟩
        obtain ⟨o', ho', hsl⟩ := slice_from b o m c q (by omega) (by omega)
        have hb2 := hb.drop q (by omega) o' ho'
        clear ho' hb
        go_wp2
        go_round
        case rel => exact ⟨_, k + q, _, _, rfl, by rw [drop_add'] at hb2; exact hb2⟩
        case measure => simp; omega
      · obtain rfl : m = 0 := by omega
        clear hb
        go_wp2
        go_ret
        exact ⟨rfl, hbelow⟩
  · have hd : decide (len0 ≤ 1048576) = false := by simp; omega
    go_enter Try.func5, Try.ntmps5
    go_wp2_with fail
    refine (zz14 _ _ _ _).mono ?_
    rintro e w' ⟨rfl, rfl⟩
    go_wp2
    go_ret
    exact ⟨rfl, Below.refl _ _⟩
end Go.Proofs.Qxb6003775a
