/-
  The walk of FnLinesSplitAtTerminators (function 6).
-/
import Derived.Test.Qxb6003775aTrim
namespace Go.Proofs.Qxb6003775a
open Go.RowKit

theorem trim_q (b o q c : Nat) (xs : List Int) (l : Bool) (w : World) (h : BL w (some ⟨b, o, none⟩) q c xs) (hq : 1 ≤ q) :
    Calls Try.prog 17 #[.slice (some ⟨b, o, none⟩) q c, .bool l] w fun e w' => e = .returned (.slice (some ⟨b, o, none⟩) (Pl.trim xs l) c) ∧ w = w' := by
  obtain ⟨s, rfl⟩ : ∃ s, q = s + 1 := ⟨q - 1, by omega⟩
  rcases h.mem with ⟨e, _⟩ | ⟨b', o', e, hc⟩
  · cases e
  · cases e
    exact trim_some b o s c xs l w h hc

theorem term_q (b o q c : Nat) (xs : List Int) (l : Bool) (j : Nat) (w : World) (h : BL w (some ⟨b, o, none⟩) q c xs) (hj : j < q) :
    Calls Try.prog 9 #[.slice (some ⟨b, o, none⟩) q c, .int .i64 (j : Int), .bool l] w fun e w' => e = .returned (.int .i64 (Pl.tl xs l j)) ∧ w = w' := by
  rcases h.mem with ⟨e, _⟩ | ⟨b', o', e, hc⟩
  · cases e
  · cases e
    exact term_some b o q c xs l j w h.len (by have := h.le; have := h.cap; omega) hc hj

/-- the loop's account: p pieces are cut off, k bytes long together; le: the last one ends with a terminator -/
def Inv (xs : List Int) (l : Bool) (n k m p : Nat) (le : Bool) : Prop :=
  k + m = n ∧ p + Pl.cnt (xs.drop k) l = Pl.cnt xs l + (if 0 < k ∧ le = false then 1 else 0) ∧ (0 < m → 0 < k → le = true)

theorem inv_start (xs : List Int) (l : Bool) (n : Nat) : Inv xs l n 0 n 0 false := ⟨by omega, by simp, fun _ h => by omega⟩
theorem inv_step {xs : List Int} {l : Bool} {n k m p : Nat} {le : Bool} (h : Inv xs l n k m p le) (hl : xs.length = n) (hm : 0 < m) {q t : Nat} (hp : Pl.Piece (xs.drop k) l q t) (le' : Bool) (hle : le' = decide (t < q)) :
    Inv xs l n (k + q) (m - q) (p + 1) le' := by
  obtain ⟨h1, h2, h3⟩ := h
  have g := hp.pos
  have g2 := hp.le
  have g3 := hp.count
  have g4 := hp.more
  rw [List.length_drop] at g2 g4
  rw [List.drop_drop] at g3
  have e0 : (if 0 < k ∧ le = false then 1 else 0) = 0 := by
    rw [if_neg]
    rintro ⟨hk, hf⟩
    have := h3 hm hk
    rw [hf] at this; cases this
  rw [e0] at h2
  refine ⟨by omega, ?_, fun hm' _ => ?_⟩
  · by_cases htq : t < q
    · rw [if_pos htq] at g3
      rw [hle, if_neg (by simp [htq])]
      omega
    · rw [if_neg htq] at g3
      rw [hle, if_pos ⟨by omega, by simp [htq]⟩]
      omega
  · rw [hle]; simp; exact g4 (by omega)
theorem inv_le {xs : List Int} {l : Bool} {n k m p : Nat} {le : Bool} (h : Inv xs l n k m p le) (hl : xs.length = n) : p ≤ n + 1 := by
  obtain ⟨h1, h2, h3⟩ := h
  have := Pl.cnt_le l xs
  have : (if 0 < k ∧ le = false then 1 else 0) ≤ 1 := by split <;> omega
  omega
theorem inv_end {xs : List Int} {l : Bool} {n k p : Nat} {le : Bool} (h : Inv xs l n k 0 p le) (hl : xs.length = n) : p = Pl.cnt xs l + (if 0 < n ∧ le = false then 1 else 0) := by
  obtain ⟨h1, h2, h3⟩ := h
  obtain rfl : k = n := by omega
  rw [Pl.cnt_end (by omega)] at h2
  omega

set_option maxHeartbeats 4000000 in
set_option maxRecDepth 100000 in
theorem law6 (a0 : Option Addr) (len0 cap0 : Nat) (xs : List Int) (a1 : Bool) (w : World) (hcame : Came w a0 len0 xs) :
    Calls Try.prog 6 #[.slice a0 len0 cap0, .bool a1] w fun e w' => e = .returned (.bool true) ∧ Below w.heap.size w w' := by
  by_cases hn : len0 ≤ 1048576
  · have hd : decide (len0 ≤ 1048576) = true := by simp [hn]
    go_enter Try.func6, Try.ntmps6
    go_wp2_with fail
    refine (zz16 _ _ _ _ _).mono ?_
    rintro e w' ⟨rfl, rfl⟩
    go_wp2_with fail
    refine (clone_any _ _ _ _ _ hcame hn).mono ?_
    rintro e w1 ⟨a', c', rfl, hbl, hbelow⟩
    clear hcame
    have HL : Hid (xs.length = len0) := hbl.len
    go_wp2_with fail
    go_loop [5, 6, 7] (fun pc la r => ∃ (a : Option Addr) (k m c p : Nat) (le : Bool), pc = .int .i64 p ∧ la = .bool le ∧ r = .slice a m c ∧ BL w1 a m c (xs.drop k) ∧ Inv xs a1 len0 k m p le) (fun _ _ r => match r with | .slice _ m _ => m | _ => 0)
    case atStart => exact ⟨a', 0, len0, c', 0, false, rfl, rfl, rfl, by simpa using hbl, inv_start _ _ _⟩
    case round =>
      obtain ⟨a, k, m, c, p, le, rfl, rfl, rfl, hb, hinv⟩ := hrel
      have hmc := hb.le
      have hcc := hb.cap
      have hpn := inv_le hinv HL.out
      by_cases hm : 0 < m
      · rcases hb.mem with ⟨_, h0, _⟩ | ⟨b, o, rfl, hc⟩
        · omega
        clear hc
        have HM : Hid ((xs.drop k).length = m) := hb.len
        go_wp2_with fail
        refine (line_any _ _ _ _ _ _ hb).mono ?_
        rintro e w' ⟨x, rfl, hx, rfl⟩
        obtain ⟨q, rfl, hpiece⟩ := Pl.piece_of (by rw [HM.out]; exact hm) hx
        have g1 := hpiece.pos
        have g2 := hpiece.le
        rw [HM.out] at g2
        have g3 := hpiece.tle
        have htr := trim_q b o q c ((xs.drop k).take q) a1 w1 (hb.take q g2) g1
        have hterm := fun (hj : Pl.trim ((xs.drop k).take q) a1 < q) => term_q b o q c ((xs.drop k).take q) a1 _ w1 (hb.take q g2) hj
        have hbody := (hb.take q g2).take _ g3
        generalize Pl.trim ((xs.drop k).take q) a1 = t at hpiece g3 htr hterm hbody
        have HI := fun le' hle => inv_step hinv HL.out hm hpiece le' hle
        have HP : Hid (Pl.Piece (xs.drop k) a1 q t) := hpiece
        obtain ⟨o', ho', hsl⟩ := slice_from b o m c q (by omega) (by omega)
        have hb2 := hb.drop q (by omega) o' ho'
        have hsl2 := slice_to b o m c q (by omega)
        clear ho' hb hinv hx hpiece
        have HI' : Hid (∀ le', le' = decide (t < q) → Inv xs a1 len0 (k + q) (m - q) (p + 1) le') := HI
        clear HI
        go_wp2_with fail
        refine htr.mono ?_
        rintro e w' ⟨rfl, rfl⟩
        clear htr
        go_wp2_with fail
        refine (zeol_any _ _ _ _ _ _ hbody).mono ?_
        rintro e w' ⟨i, kk, rfl, hf, rfl⟩
        obtain rfl := HP.out.none _ _ hf
        clear hf hbody
        by_cases htq : t < q
        · have htm := hterm htq
          clear hterm
          have e0 : Hid (Pl.tl ((xs.drop k).take q) a1 t = (q : Int) - t) := HP.out.term htq
          rw [e0.out] at htm
          have d1 : decide ((t : Int) < (q : Int)) = true := by simp; exact htq
          have i1 : (t : Int) < (q : Int) := by omega
          by_cases hmq : 0 < m - q
          all_goals
            go_wp2_with fail
            refine htm.mono ?_
            rintro e w' ⟨rfl, rfl⟩
            clear htm
            go_wp2
            go_round
            case rel => exact ⟨_, k + q, _, _, p + 1, true, by go_num, rfl, rfl, by rw [List.drop_drop] at hb2; exact hb2, HI'.out true (by simp [htq])⟩
            case measure => simp; omega
        · obtain rfl : t = q := by omega
          have hmq : m = t := by
            by_cases hlt : t < m
            · exact absurd (HP.out.more (by rw [HM.out]; exact hlt)) htq
            · omega
          subst hmq
          clear hterm
          go_wp2
          go_round
          case rel => exact ⟨_, k + m, _, _, p + 1, false, by go_num, rfl, rfl, by rw [List.drop_drop, Nat.sub_self] at hb2; exact hb2, by have := HI'.out false (by simp); rwa [Nat.sub_self] at this⟩
          case measure => simp; omega
      · obtain rfl : m = 0 := by omega
        have HE : Hid (p = Pl.cnt xs a1 + (if 0 < len0 ∧ le = false then 1 else 0)) := inv_end hinv HL.out
        clear hb hinv hm
        have hcnt := count_any _ _ _ _ a1 _ hbl
        have hcl := Pl.cnt_le a1 xs
        rw [HL.out] at hcl
        generalize Pl.cnt xs a1 = C at HE hcnt hcl
        clear hbl
        by_cases h0 : 0 < len0
        · have i0 : (0 : Int) < (len0 : Int) := by omega
          have d0 : decide ((0 : Int) < (len0 : Int)) = true := decide_eq_true i0
          cases le with
          | true =>
            obtain rfl : p = C := by have := HE.out; simpa using this
            clear HE
            go_wp2_with fail
            refine hcnt.mono ?_
            rintro e w' ⟨rfl, rfl⟩
            clear hcnt
            go_wp2
            go_ret
            exact ⟨by simp, hbelow⟩
          | false =>
            obtain rfl : p = C + 1 := by have := HE.out; simpa [h0] using this
            clear HE
            go_wp2_with fail
            refine hcnt.mono ?_
            rintro e w' ⟨rfl, rfl⟩
            clear hcnt
            go_wp2
            go_ret
            exact ⟨by simp, hbelow⟩
        · obtain rfl : len0 = 0 := by omega
          obtain rfl : p = C := by have := HE.out; simpa using this
          clear HE
          go_wp2_with fail
          refine hcnt.mono ?_
          rintro e w' ⟨rfl, rfl⟩
          clear hcnt
          go_wp2
          go_ret
          exact ⟨by simp, hbelow⟩
  · have hd : decide (len0 ≤ 1048576) = false := by simp; omega
    go_enter Try.func6, Try.ntmps6
    go_wp2_with fail
    refine (zz16 _ _ _ _ _).mono ?_
    rintro e w' ⟨rfl, rfl⟩
    go_wp2
    go_ret
    exact ⟨rfl, Below.refl _ _⟩
end Go.Proofs.Qxb6003775a
