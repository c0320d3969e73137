/-
  The walk of FnStrReadsWrittenString (function 5).
-/
import Derived.Test.Qxb6001751aFmtApp
import Derived.Test.Qxb6001751aFmtStr
namespace Go.Proofs.Qxb6001751aFmt
open Go.RowKit

theorem zz18 (s1 s2 : ByteArray) (a : Option Addr) (n c : Nat) (w : World) :
    Calls Tryf.prog 18 #[.string s1, .string s2, .slice a n c] w fun e w' => e = .returned (.bool (decide (s1.size + s2.size + n ≤ 1048576))) ∧ w = w' := by
  by_cases h1 : s1.size ≤ 1048576
  · by_cases h2 : s2.size ≤ 1048576
    · by_cases h2' : s1.size + s2.size ≤ 1048576
      · by_cases h3 : n ≤ 1048576
        · by_cases h4 : s1.size + s2.size + n ≤ 1048576
          · go_enter Tryf.func18, Tryf.ntmps18
            go_wp2
            go_ret
            exact ⟨by simp [h4], rfl⟩
          · go_enter Tryf.func18, Tryf.ntmps18
            go_wp2
            go_ret
            exact ⟨by simp; omega, rfl⟩
        · go_enter Tryf.func18, Tryf.ntmps18
          go_wp2
          go_ret
          exact ⟨by simp; omega, rfl⟩
      · go_enter Tryf.func18, Tryf.ntmps18
        go_wp2
        go_ret
        exact ⟨by simp; omega, rfl⟩
    · go_enter Tryf.func18, Tryf.ntmps18
      go_wp2
      go_ret
      exact ⟨by simp; omega, rfl⟩
  · go_enter Tryf.func18, Tryf.ntmps18
    go_wp2
    go_ret
    exact ⟨by simp; omega, rfl⟩

theorem lit1' (x : Int) (j : Nat) (h : j < 1) : (#[Value.int .u8 x] : Array Value)[j]? = some (.int .u8 (bt [x] j)) := by
  obtain rfl : j = 0 := by omega
  rfl

/-- what has been written behind k bytes -/
def wrote (s : ByteArray) (k : Nat) : List Int := 34 :: esc ((bs s).take k)
theorem wrote_zero (s : ByteArray) : wrote s 0 = [34] := rfl
theorem wrote_length (s : ByteArray) (k : Nat) : (wrote s k).length = 1 + escAt (bs s) k := by unfold wrote escAt; simp; omega
theorem wrote_special (s : ByteArray) (k : Nat) (h : k < s.size) (hs : special (s[k].toNat : Int) = true) : wrote s k ++ [92] ++ [(s[k].toNat : Int)] = wrote s (k + 1) := by
  unfold wrote
  rw [← take_step s k h, esc_snoc, esc1, if_pos hs]; simp
theorem wrote_plain (s : ByteArray) (k : Nat) (h : k < s.size) (hs : special (s[k].toNat : Int) = false) : wrote s k ++ [(s[k].toNat : Int)] = wrote s (k + 1) := by
  unfold wrote
  rw [← take_step s k h, esc_snoc, esc1, if_neg (by rw [hs]; simp)]; simp
theorem wrote_end (s : ByteArray) : wrote s s.size ++ [34] = quoted (bs s) := by
  unfold wrote quoted
  rw [List.take_of_length_le (by rw [bs_length]; exact Nat.le_refl _)]; simp
theorem wrote_le (s : ByteArray) (k : Nat) (h : k ≤ s.size) : (wrote s k).length ≤ 1 + 2 * k := by
  rw [wrote_length]
  have := esc_length_le ((bs s).take k)
  unfold escAt
  rw [List.length_take, bs_length] at this
  omega

set_option maxHeartbeats 8000000 in
set_option maxRecDepth 100000 in
theorem law5_main (sep s : ByteArray) (a : Option Addr) (n c : Nat) (ys : List Int) (w : World) (hcame : Came w a n ys) (hsum : sep.size + s.size + n ≤ 1048576) (hs : s.size ≤ 524288) (hall : allSepB sep = true) :
    Calls Tryf.prog 5 #[.string sep, .string s, .slice a n c] w fun e w' => e = .returned (.bool true) ∧ Below w.heap.size w w' := by
  have hd : decide (sep.size + s.size + n ≤ 1048576) = true := by simp [hsum]
  have HA : Hid (∀ j, j < sep.size → isSep (bt (bs sep) j) = true) := (allSepB_iff sep).1 hall
  have hd1 : decide ((1048576 : Int) < (sep.size : Int)) = false := by simp; omega
  have hd2 : decide ((1048576 : Int) < (n : Int)) = false := by simp; omega
  have hd3 : decide ((524288 : Int) < (s.size : Int)) = false := by simp; omega
  have hd4 : decide ((1048576 : Int) < (sep.size : Int) + (s.size : Int) + (n : Int)) = false := by simp; omega
  go_enter Tryf.func5, Tryf.ntmps5
  go_wp2_with fail
  refine (zz18 _ _ _ _ _ _).mono ?_
  rintro e w' ⟨rfl, rfl⟩
  go_wp2_with fail
  refine (allSep_any _ _ (by omega)).mono ?_
  rintro e w' ⟨rfl, rfl⟩
  go_wp2_with fail
  refine (clone_any _ _ _ _ _ hcame (by omega)).mono ?_
  rintro e w1 ⟨a', c', rfl, hmine, hbelow⟩
  clear hcame hall
  obtain ⟨W2, hmk, hown, hgr⟩ := own_make w1 (2 * s.size + 2) (by omega)
  have hmk' : (Instr.makeSlice 22 (.int .i64 0) (.int .i64 (2 * (s.size : Int) + 2))).run Tryf.prog w1 = .ok (.slice (some ⟨w1.heap.size, 0, none⟩) 0 (2 * s.size + 2)) W2 := hmk
  clear hmk
  generalize hcE : 2 * s.size + 2 = cap at hmk' hown
  have hcap : 2 * s.size + 2 ≤ cap := by omega
  have hcap2 : cap ≤ 16777216 := by omega
  clear hcE
  have hw1 := hbelow.size
  have HM : Hid (Mine w1 a' n c' ys) := hmine
  have HB : Hid (Below w.heap.size w w1) := hbelow
  clear hmine hbelow
  obtain ⟨W3, hrun0, ho3, hg3⟩ := app_gen hown (k := 0) rfl #[.int .u8 34] [34] 1 rfl (lit1' _) (by omega)
  have HG0 : Hid (w1.grownBy W3 (some w1.heap.size)) := grown_trans (grown_weak hgr _) hg3
  have HO0 : Hid (Own W3 w1.heap.size cap (wrote s 0)) := ho3
  clear hgr hg3 hown ho3
  go_wp2_with (at_builtin; refine wpList_app _ rfl _ _ 22 rfl _ _ rfl rfl hrun0 ?_; clear hrun0)
  go_loopw [7, 8] (fun v i wr => ∃ k m : Nat, k ≤ s.size ∧ m ≤ 1 + 2 * k ∧ (wrote s k).length = m ∧ i = .int .i64 k ∧ v = .slice (some ⟨w1.heap.size, 0, none⟩) m cap ∧ Own wr w1.heap.size cap (wrote s k) ∧ w1.grownBy wr (some w1.heap.size)) (fun _ i _ => s.size - (intOf i).toNat)
  case atStart => exact ⟨0, 1, Nat.zero_le _, Nat.le_refl _, rfl, rfl, rfl, HO0.out, HG0.out⟩
  case round =>
    obtain ⟨k, m, hk, hm, hml, rfl, rfl, ho, hg⟩ := hrel
    have HML : Hid ((wrote s k).length = m) := hml
    have HG : Hid (w1.grownBy wr (some w1.heap.size)) := hg
    have HO : Hid (Own wr w1.heap.size cap (wrote s k)) := ho
    clear hg ho hml HO0 HG0
    by_cases hlt : k < s.size
    · have hlt' : (k : Int) < (s.size : Int) := by omega
      cases hsp : special (s[k].toNat : Int) with
      | true =>
        obtain ⟨WA, hrunA, hoA, hgA⟩ := app_gen HO.out HML.out #[.int .u8 92] [92] 1 rfl (lit1' _) (by omega)
        obtain ⟨WB, hrunB, hoB, hgB⟩ := app_gen hoA (k := m + 1) (by rw [List.length_append, HML.out]; rfl) #[.int .u8 (s[k].toNat : Int)] [(s[k].toNat : Int)] 1 rfl (lit1' _) (by omega)
        rw [wrote_special s k hlt hsp] at hoB
        have HOB : Hid (Own WB w1.heap.size cap (wrote s (k + 1))) := hoB
        have HGB : Hid (w1.grownBy WB (some w1.heap.size)) := grown_trans (grown_trans HG.out hgA) hgB
        have HLB : Hid ((wrote s (k + 1)).length = m + 1 + 1) := by rw [← wrote_special s k hlt hsp]; show _ = _; rw [List.length_append, List.length_append, HML.out]; rfl
        have hle := wrote_le s (k + 1) (by omega)
        rw [HLB.out] at hle
        have hor : ((s[k].toNat : Int) == 34) = true ∨ ((s[k].toNat : Int) == 92) = true := by
          rcases special_true hsp with e | e <;> simp [e]
        clear hoA hoB hgA hgB hsp
        rcases hor with e1 | e1
        · go_wp2_with (first | (at_builtin; refine wpList_app _ rfl _ _ 22 rfl _ _ rfl rfl hrunA ?_; clear hrunA) | (at_builtin; refine wpList_app _ rfl _ _ 22 rfl _ _ rfl rfl hrunB ?_; clear hrunB))
          go_roundw
          case rel => exact ⟨k + 1, m + 1 + 1, by omega, hle, HLB.out, by go_num, rfl, HOB.out, HGB.out⟩
          case measure => simp [intOf]; omega
        · have e2 : ((s[k].toNat : Int) == 34) = false := by
            have := beq_iff_eq.1 e1
            exact beq_eq_false_iff_ne.2 (by omega)
          go_wp2_with (first | (at_builtin; refine wpList_app _ rfl _ _ 22 rfl _ _ rfl rfl hrunA ?_; clear hrunA) | (at_builtin; refine wpList_app _ rfl _ _ 22 rfl _ _ rfl rfl hrunB ?_; clear hrunB))
          go_roundw
          case rel => exact ⟨k + 1, m + 1 + 1, by omega, hle, HLB.out, by go_num, rfl, HOB.out, HGB.out⟩
          case measure => simp [intOf]; omega
      | false =>
        obtain ⟨e1, e2⟩ := special_false hsp
        obtain ⟨WB, hrunB, hoB, hgB⟩ := app_gen HO.out HML.out #[.int .u8 (s[k].toNat : Int)] [(s[k].toNat : Int)] 1 rfl (lit1' _) (by omega)
        rw [wrote_plain s k hlt hsp] at hoB
        have HOB : Hid (Own WB w1.heap.size cap (wrote s (k + 1))) := hoB
        have HGB : Hid (w1.grownBy WB (some w1.heap.size)) := grown_trans HG.out hgB
        have HLB : Hid ((wrote s (k + 1)).length = m + 1) := by rw [← wrote_plain s k hlt hsp]; show _ = _; rw [List.length_append, HML.out]; rfl
        clear hoB hgB hsp
        go_wp2_with (at_builtin; refine wpList_app _ rfl _ _ 22 rfl _ _ rfl rfl hrunB ?_; clear hrunB)
        go_roundw
        case rel => exact ⟨k + 1, m + 1, by omega, by omega, HLB.out, by go_num, rfl, HOB.out, HGB.out⟩
        case measure => simp [intOf]; omega
    · obtain rfl : k = s.size := by omega
      have hlt' : ¬ (s.size : Int) < (s.size : Int) := by omega
      obtain ⟨WE, hrunE, hoE, hgE⟩ := app_gen HO.out HML.out #[.int .u8 34] [34] 1 rfl (lit1' _) (by omega)
      rw [wrote_end] at hoE
      have HQL : Hid ((quoted (bs s)).length = m + 1) := by rw [← wrote_end]; show _ = _; rw [List.length_append, HML.out]; rfl
      have HOE : Hid (Own WE w1.heap.size cap (quoted (bs s))) := hoE
      have HGE : Hid (w1.grownBy WE (some w1.heap.size)) := grown_trans HG.out hgE
      have hsE : w1.heap.size < WE.heap.size := own_lt hoE
      have HME : Hid (Mine WE a' n c' ys) := mine_kept HM.out HGE.out (Nat.le_refl _)
      have HBE : Hid (Below w.heap.size w WE) := HB.out.grown HGE.out hw1 (fun k hk => by injection hk; omega)
      obtain ⟨W5, hmk5, ho5, hg5⟩ := own_make WE (sep.size + (m + 1) + n) (by omega)
      have hmk5' : (Instr.makeSlice 22 (.int .i64 0) (.int .i64 ((sep.size : Int) + ((m : Int) + 1) + (n : Int)))).run Tryf.prog WE = .ok (.slice (some ⟨WE.heap.size, 0, none⟩) 0 (sep.size + (m + 1) + n)) W5 := hmk5
      generalize hcE : sep.size + (m + 1) + n = capD at hmk5' ho5
      have hcapD : sep.size + (m + 1) + n ≤ capD := by omega
      have hcapD2 : capD ≤ 16777216 := by omega
      have HO5 : Hid (Own W5 WE.heap.size capD []) := ho5
      have HG5 : Hid (WE.grownBy W5 (some WE.heap.size)) := grown_weak hg5 _
      clear hmk5 hcE hoE hgE ho5 hg5 hk hlt HM HB HO HG HML
      go_wp2_with (at_builtin; refine wpList_app _ rfl _ _ 22 rfl _ _ rfl rfl hrunE ?_; clear hrunE)
      go_loopw [10, 11] (fun v i wr => ∃ k : Nat, k ≤ sep.size ∧ i = .int .i64 k ∧ v = .slice (some ⟨WE.heap.size, 0, none⟩) k capD ∧ Own wr WE.heap.size capD ((bs sep).take k) ∧ WE.grownBy wr (some WE.heap.size)) (fun _ i _ => sep.size - (intOf i).toNat)
      case atStart => exact ⟨0, Nat.zero_le _, rfl, rfl, HO5.out, HG5.out⟩
      case round =>
        obtain ⟨k, hk, rfl, rfl, ho, hg⟩ := hrel
        have HG : Hid (WE.grownBy wr (some WE.heap.size)) := hg
        have HO : Hid (Own wr WE.heap.size capD ((bs sep).take k)) := ho
        clear hg ho HO5 HG5
        by_cases hlt : k < sep.size
        · have hlt' : (k : Int) < (sep.size : Int) := by omega
          obtain ⟨W', hrun, ho', hg'⟩ := app_gen HO.out (k := k) (by rw [List.length_take, bs_length]; omega) #[.int .u8 (sep[k].toNat : Int)] [(sep[k].toNat : Int)] 1 rfl (lit1' _) (by omega)
          rw [take_step sep k hlt] at ho'
          have HO' : Hid (Own W' WE.heap.size capD ((bs sep).take (k + 1))) := ho'
          have HG' : Hid (WE.grownBy W' (some WE.heap.size)) := grown_trans HG.out hg'
          clear ho' hg'
          go_wp2_with (at_builtin; refine wpList_app _ rfl _ _ 22 rfl _ _ rfl rfl hrun ?_; clear hrun)
          go_roundw
          case rel => exact ⟨k + 1, by omega, by go_num, rfl, HO'.out, HG'.out⟩
          case measure => simp [intOf]; omega
        · obtain rfl : k = sep.size := by omega
          have hlt' : ¬ (sep.size : Int) < (sep.size : Int) := by omega
          have ho := HO.out
          rw [List.take_of_length_le (by rw [bs_length]; exact Nat.le_refl _)] at ho
          have hmq : Mine wr (some ⟨w1.heap.size, 0, none⟩) (m + 1) cap (quoted (bs s)) := by
            have hk := own_kept HOE.out HG.out (by intro e; injection e; omega)
            exact ⟨HQL.out, .inr ⟨_, rfl, own_lt hk, fun j hj => own_cell hk j (by rw [HQL.out]; exact hj)⟩⟩
          obtain ⟨W6, hrun6, ho6, hg6⟩ := app_mine ho (bs_length sep) hmq (by omega)
          have hg6' := grown_trans HG.out hg6
          obtain ⟨W7, hrun7, ho7, hg7⟩ := app_mine ho6 (k := sep.size + (m + 1)) (by rw [List.length_append, bs_length, HQL.out]) (mine_kept HME.out hg6' (Nat.le_refl _)) (by omega)
          have hg7' := grown_trans hg6' hg7
          have hs7 : WE.heap.size < W7.heap.size := own_lt ho7
          have HO7 : Hid (Own W7 WE.heap.size capD (bs sep ++ quoted (bs s) ++ ys)) := ho7
          have HQ7 : Hid (Own W7 w1.heap.size cap (quoted (bs s))) := own_kept HOE.out hg7' (by intro e; injection e; omega)
          have HB7 : Hid (Below w.heap.size w W7) := HBE.out.grown hg7' (by omega) (fun k hk => by injection hk; omega)
          have hl7 : Hid ((bs sep ++ quoted (bs s) ++ ys).length = sep.size + (m + 1) + n) := by
            have := HME.out.len
            show _ = _
            rw [List.length_append, List.length_append, bs_length, HQL.out, this]
          clear ho hmq ho6 hg6 hg6' ho7 hg7 hg7' hk hlt
          go_wp2_with (first | (at_builtin; refine wpList_app _ rfl _ _ 22 rfl _ _ rfl rfl hrun6 ?_; clear hrun6) | (at_builtin; refine wpList_app _ rfl _ _ 22 rfl _ _ rfl rfl hrun7 ?_; clear hrun7))
          have hz := zstr_any WE.heap.size (sep.size + (m + 1) + n) capD (bs sep ++ quoted (bs s) ++ ys) sep.size (bs s) ⟨#[114, 101, 113, 117, 101, 115, 116]⟩ W7 hl7.out hs7 (fun j hj => own_cell HO7.out j (by rw [hl7.out]; exact hj)) (by rw [HQL.out]; omega) (by omega) (by omega)
            (fun j hj => by rw [List.append_assoc, bt_app_left (by rw [bs_length]; exact hj)]; exact HA.out j hj)
            (fun j hj => by
              rw [List.append_assoc]
              have := bt_app_right (bs sep) (quoted (bs s) ++ ys) j
              rw [bs_length] at this
              rw [this, bt_app_left hj])
          rw [HQL.out] at hz
          refine hz.mono ?_
          clear hz
          rintro e w8 ⟨rfl, hb8⟩
          have heq := equal_true WE.heap.size sep.size (m + 1) (capD - sep.size) w1.heap.size cap (quoted (bs s)) w8 HQL.out (by omega)
            (fun j hj => by
              rw [hb8.cell (p := ⟨WE.heap.size, sep.size + j, none⟩) hs7, own_cell HO7.out _ (by rw [hl7.out]; omega), List.append_assoc]
              have := bt_app_right (bs sep) (quoted (bs s) ++ ys) j
              rw [bs_length] at this
              rw [this, bt_app_left (by rw [HQL.out]; exact hj)])
            (fun j hj => by
              rw [hb8.cell (p := ⟨w1.heap.size, j, none⟩) (by show w1.heap.size < _; omega)]
              exact own_cell HQ7.out j (by rw [HQL.out]; exact hj))
          have HB8 : Hid (Below w.heap.size w w8) := HB7.out.trans (hb8.mono (by omega))
          clear hb8
          go_wp2_with fail
          refine heq.mono ?_
          clear heq
          rintro e w9 ⟨rfl, r, rfl⟩
          go_wp2
          go_ret
          exact ⟨by simp, below_drawn HB8.out _⟩

theorem law5_long (sep s : ByteArray) (a : Option Addr) (n c : Nat) (w : World) (hsum : ¬ sep.size + s.size + n ≤ 1048576) :
    Calls Tryf.prog 5 #[.string sep, .string s, .slice a n c] w fun e w' => e = .returned (.bool true) ∧ Below w.heap.size w w' := by
  have hd : decide (sep.size + s.size + n ≤ 1048576) = false := by simp; omega
  go_enter Tryf.func5, Tryf.ntmps5
  go_wp2_with fail
  refine (zz18 _ _ _ _ _ _).mono ?_
  rintro e w' ⟨rfl, rfl⟩
  go_wp2
  go_ret
  exact ⟨rfl, Below.refl _ _⟩

theorem law5_wide (sep s : ByteArray) (a : Option Addr) (n c : Nat) (w : World) (hsum : sep.size + s.size + n ≤ 1048576) (hs : ¬ s.size ≤ 524288) :
    Calls Tryf.prog 5 #[.string sep, .string s, .slice a n c] w fun e w' => e = .returned (.bool true) ∧ Below w.heap.size w w' := by
  have hd : decide (sep.size + s.size + n ≤ 1048576) = true := by simp [hsum]
  go_enter Tryf.func5, Tryf.ntmps5
  go_wp2_with fail
  refine (zz18 _ _ _ _ _ _).mono ?_
  rintro e w' ⟨rfl, rfl⟩
  go_wp2
  go_ret
  exact ⟨rfl, Below.refl _ _⟩

theorem law5_not (sep s : ByteArray) (a : Option Addr) (n c : Nat) (w : World) (hsum : sep.size + s.size + n ≤ 1048576) (hs : s.size ≤ 524288) (hall : allSepB sep = false) :
    Calls Tryf.prog 5 #[.string sep, .string s, .slice a n c] w fun e w' => e = .returned (.bool true) ∧ Below w.heap.size w w' := by
  have hd : decide (sep.size + s.size + n ≤ 1048576) = true := by simp [hsum]
  go_enter Tryf.func5, Tryf.ntmps5
  go_wp2_with fail
  refine (zz18 _ _ _ _ _ _).mono ?_
  rintro e w' ⟨rfl, rfl⟩
  go_wp2_with fail
  refine (allSep_any _ _ (by omega)).mono ?_
  rintro e w' ⟨rfl, rfl⟩
  go_wp2
  go_ret
  exact ⟨rfl, Below.refl _ _⟩

/-- FnStrReadsWrittenString returns true; nothing that was there turns. -/
theorem law5 (sep s : ByteArray) (a : Option Addr) (n c : Nat) (ys : List Int) (w : World) (hcame : Came w a n ys) :
    Calls Tryf.prog 5 #[.string sep, .string s, .slice a n c] w fun e w' => e = .returned (.bool true) ∧ Below w.heap.size w w' := by
  by_cases hsum : sep.size + s.size + n ≤ 1048576
  · by_cases hs : s.size ≤ 524288
    · cases hall : allSepB sep with
      | false => exact law5_not sep s a n c w hsum hs hall
      | true => exact law5_main sep s a n c ys w hcame hsum hs hall
    · exact law5_wide sep s a n c w hsum hs
  · exact law5_long sep s a n c w hsum
end Go.Proofs.Qxb6001751aFmt
