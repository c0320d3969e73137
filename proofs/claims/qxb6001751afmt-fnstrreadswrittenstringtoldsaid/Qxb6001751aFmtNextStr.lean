/-
  (*tokens).next (function 37) where the next token is a string as the law writes it: its contract.
-/
import Derived.Test.Qxb6001751aFmtNext
import Derived.Test.Qxb6001751aFmtEsc
namespace Go.Proofs.Qxb6001751aFmt
open Go.RowKit

set_option maxHeartbeats 4000000 in
set_option maxRecDepth 100000 in
theorem next_str (T d n cap : Nat) (xs : List Int) (k p : Nat) (cs : List Int) (w : World) (h : Tok w T d n cap xs k) (hkp : k ≤ p) (hpn : p + (quoted cs).length ≤ n) (hn : n ≤ 16777216) (hcap : n ≤ cap)
    (hsep : ∀ j, k ≤ j → j < p → isSep (bt xs j) = true) (hw : ∀ j, j < (quoted cs).length → bt xs (p + j) = bt (quoted cs) j) :
    Calls Tryf.prog 37 #[.pointer (some ⟨T, 0, none⟩)] w fun e w' => e = .returned (.agg #[.int .u8 34, .slice (some ⟨d, p, none⟩) (quoted cs).length (cap - p)]) ∧ AdvG T (p + (quoted cs).length) w w' := by
  have HQ : Hid (∀ j, j < (quoted cs).length → bt xs (p + j) = bt (quoted cs) j) := hw
  clear hw
  generalize hq : (quoted cs).length = q at hpn HQ ⊢
  have HL : Hid ((quoted cs).length = q) := hq
  clear hq
  have hq2 : 2 ≤ q := by have := HL.out; rw [quoted_length] at this; omega
  have hfirst : bt xs p = 34 := by have := HQ.out 0 (by omega); rw [Nat.add_zero] at this; rw [this]; rfl
  have hsl := slice_text d n cap p q (by omega) (by omega)
  have hts := h.size
  go_enter Tryf.func37, Tryf.ntmps37
  go_wp2_with fail
  refine (skip_any T d n cap xs k p _ (tok_alloc h _) hkp (by omega) hn hsep (fun _ => by rw [hfirst]; rfl)).mono ?_
  rintro e w2 ⟨rfl, hadv⟩
  have htok := adv_tok (tok_alloc h _) hadv
  have HA : Hid (Adv T p (w.alloc (.cells #[.int .u8 0, .slice none 0 0] 67)) w2) := hadv
  obtain ⟨_, hlt, _, cd, cp, cf, cc⟩ := htok
  have ccell := cc p (by omega)
  rw [hfirst] at ccell
  clear cc hadv hfirst hsep
  have hpn' : (p : Int) < (n : Int) := by omega
  have hne : ((p : Int) == (n : Int)) = false := beq_eq_false_iff_ne.2 (by omega)
  go_wp2
  go_quiet (fail)
  go_wp2
  clear cd cp cf ccell
  go_loopg [] cs.length (fun g wr => ∃ i : Nat, i ≤ cs.length ∧ g = cs.length - i ∧ Adv T (p + (1 + escAt cs i)) (w.alloc (.cells #[.int .u8 0, .slice none 0 0] 67)) wr)
  case atStart => exact ⟨0, Nat.zero_le _, rfl, adv_store (adv_drewN HA.out _) (p + 1)⟩
  case round =>
    obtain ⟨i, hi, hgk, hadv⟩ := hrel
    have HG : Hid (gk = cs.length - i) := hgk
    clear hgk HA
    have hqe : q = (esc cs).length + 2 := by have := HL.out; rw [quoted_length] at this; exact this.symm
    have hle : escAt cs i ≤ (esc cs).length := escAt_le i
    have hval := HQ.out (1 + escAt cs i) (by omega)
    have hmn : p + (1 + escAt cs i) + 1 ≤ p + q := by omega
    by_cases hil : i < cs.length
    · rw [quoted_at hil] at hval
      have hsucc := escAt_succ hil
      generalize bt cs i = c at hval hsucc
      cases hs : special c with
      | true =>
        rw [hs, if_pos rfl] at hsucc hval
        have HN : Hid (p + (1 + escAt cs (i + 1)) = p + (1 + escAt cs i) + 2) := by show _ = _; omega
        generalize p + (1 + escAt cs i) = m at hadv hval hmn HN
        obtain ⟨_, _, _, cd, cp, cf, cc⟩ := adv_tok (tok_alloc h _) hadv
        have ccell := cc m (by omega)
        rw [hval] at ccell
        have HA : Hid (Adv T m (w.alloc (.cells #[.int .u8 0, .slice none 0 0] 67)) wr) := hadv
        have hmn' : (m : Int) < (n : Int) := by omega
        have hmb : m ≤ 16777216 := by omega
        clear hadv cc hval hsucc hqe hle
        go_wp2
        go_quiet (fail)
        go_wp2
        go_quiet (fail)
        go_wp2
        go_roundg (cs.length - (i + 1))
        case measure => have := HG.out; omega
        case rel => exact ⟨i + 1, by omega, rfl, by rw [HN.out]; exact adv_store (adv_store (adv_drewN HA.out _) (m + 1)) (m + 1 + 1)⟩
      | false =>
        rw [hs, if_neg (by simp)] at hsucc hval
        obtain ⟨e1, e2⟩ := special_false hs
        have e1' : (c != 34) = true := by simp [bne, e1]
        have HN : Hid (p + (1 + escAt cs (i + 1)) = p + (1 + escAt cs i) + 1) := by show _ = _; omega
        generalize p + (1 + escAt cs i) = m at hadv hval hmn HN
        obtain ⟨_, _, _, cd, cp, cf, cc⟩ := adv_tok (tok_alloc h _) hadv
        have ccell := cc m (by omega)
        rw [hval] at ccell
        have HA : Hid (Adv T m (w.alloc (.cells #[.int .u8 0, .slice none 0 0] 67)) wr) := hadv
        have hmn' : (m : Int) < (n : Int) := by omega
        have hmb : m ≤ 16777216 := by omega
        clear hadv cc hval hsucc hqe hle hs
        go_wp2
        go_quiet (fail)
        go_wp2
        go_quiet (fail)
        go_wp2
        go_roundg (cs.length - (i + 1))
        case measure => have := HG.out; omega
        case rel => exact ⟨i + 1, by omega, rfl, by rw [HN.out]; exact adv_store (adv_drewN HA.out _) (m + 1)⟩
    · obtain rfl : i = cs.length := by omega
      rw [quoted_end] at hval
      rw [escAt_end] at hval hmn hadv hle
      have HN : Hid (p + (1 + (esc cs).length) + 1 = p + q) := by show _ = _; omega
      generalize p + (1 + (esc cs).length) = m at hadv hval hmn HN
      obtain ⟨_, _, _, cd, cp, cf, cc⟩ := adv_tok (tok_alloc h _) hadv
      have ccell := cc m (by omega)
      rw [hval] at ccell
      have HA : Hid (Adv T m (w.alloc (.cells #[.int .u8 0, .slice none 0 0] 67)) wr) := hadv
      have hmn' : (m : Int) < (n : Int) := by omega
      have hmb : m ≤ 16777216 := by omega
      clear hadv cc hval hqe hle hi hil
      go_wp2
      go_quiet (fail)
      go_wp2
      generalize hW : (wr.drewN _).setCell ⟨T, 1, none⟩ (.int .i64 ((m : Int) + 1)) = W3
      have hadv : Adv T (p + q) (w.alloc (.cells #[.int .u8 0, .slice none 0 0] 67)) W3 := by rw [← hW, ← HN.out]; exact adv_store (adv_drewN HA.out _) (m + 1)
      clear hW HA cd cp cf ccell HN hmn hmn' hmb
      obtain ⟨r0, r1, f0, f1⟩ := own_result hts hadv
      obtain ⟨_, _, _, cd, cp, cf, cc⟩ := adv_tok (tok_alloc h _) hadv
      have HA : Hid (Adv T (p + q) (w.alloc (.cells #[.int .u8 0, .slice none 0 0] 67)) W3) := hadv
      have cp' : W3.cell? ⟨T, 1, none⟩ = some (.int .i64 ((p : Int) + (q : Int))) := cp
      clear cc hadv h cf cp
      go_region
      go_wp2
      exact bodyPost_ret (v := .agg #[.int .u8 34, .slice (some ⟨d, p, none⟩) q (cap - p)]) (by simp [results, Tryf.results37, go_sem, r0, r1]) rfl ⟨rfl, advG_of hts HA.out _ _⟩
end Go.Proofs.Qxb6001751aFmt
