/-
  The walk of FnBooleanReadsWrittenWord (function 3).
-/
import Derived.Test.Qxb6001751aFmtApp
namespace Go.Proofs.Qxb6001751aFmt
open Go.RowKit

theorem lit1 (x : Int) (j : Nat) (h : j < 1) : (#[Value.int .u8 x] : Array Value)[j]? = some (.int .u8 (bt [x] j)) := by
  obtain rfl : j = 0 := by omega
  rfl
theorem lit4 (x0 x1 x2 x3 : Int) (j : Nat) (h : j < 4) : (#[Value.int .u8 x0, .int .u8 x1, .int .u8 x2, .int .u8 x3] : Array Value)[j]? = some (.int .u8 (bt [x0, x1, x2, x3] j)) := by
  match j, h with
  | 0, _ => rfl
  | 1, _ => rfl
  | 2, _ => rfl
  | 3, _ => rfl
theorem lit5 (x0 x1 x2 x3 x4 : Int) (j : Nat) (h : j < 5) : (#[Value.int .u8 x0, .int .u8 x1, .int .u8 x2, .int .u8 x3, .int .u8 x4] : Array Value)[j]? = some (.int .u8 (bt [x0, x1, x2, x3, x4] j)) := by
  match j, h with
  | 0, _ => rfl
  | 1, _ => rfl
  | 2, _ => rfl
  | 3, _ => rfl
  | 4, _ => rfl

set_option maxHeartbeats 4000000 in
set_option maxRecDepth 100000 in
theorem law3_true (sep : ByteArray) (a : Option Addr) (n c : Nat) (ys : List Int) (dst : Bool) (w : World) (hcame : Came w a n ys) (hsum : sep.size + n ≤ 1048576) (hall : allSepB sep = true) :
    Calls Tryf.prog 3 #[.string sep, .bool true, .slice a n c, .bool dst] w fun e w' => e = .returned (.bool true) ∧ Below w.heap.size w w' := by
  have hd : decide (sep.size + n ≤ 1048576) = true := by simp [hsum]
  have HA : Hid (∀ j, j < sep.size → isSep (bt (bs sep) j) = true) := (allSepB_iff sep).1 hall
  have hd1 : decide ((1048576 : Int) < (sep.size : Int)) = false := by simp; omega
  have hd2 : decide ((1048576 : Int) < (n : Int)) = false := by simp; omega
  have hd3 : decide ((1048576 : Int) < (sep.size : Int) + (n : Int)) = false := by simp; omega
  go_enter Tryf.func3, Tryf.ntmps3
  go_wp2_with fail
  refine (zz11 _ _ _ _ _ _ _).mono ?_
  rintro e w' ⟨rfl, rfl⟩
  go_wp2_with fail
  refine (allSep_any _ _ (by omega)).mono ?_
  rintro e w' ⟨rfl, rfl⟩
  go_wp2_with fail
  refine (clone_any _ _ _ _ _ hcame (by omega)).mono ?_
  rintro e w1 ⟨a', c', rfl, hmine, hbelow⟩
  clear hcame hall
  obtain ⟨W2, hmk, hown, hgr⟩ := own_make w1 (sep.size + 5 + n) (by omega)
  have hmk' : (Instr.makeSlice 22 (.int .i64 0) (.int .i64 ((sep.size : Int) + 5 + (n : Int)))).run Tryf.prog w1 = .ok (.slice (some ⟨w1.heap.size, 0, none⟩) 0 (sep.size + 5 + n)) W2 := hmk
  clear hmk
  generalize hcE : sep.size + 5 + n = cap at hmk' hown
  have hcap : sep.size + 5 + n ≤ cap := by omega
  have hcap2 : cap ≤ 16777216 := by omega
  clear hcE
  have hw1 := hbelow.size
  have hgs : w1.heap.size < W2.heap.size := own_lt hown
  have HM : Hid (Mine w1 a' n c' ys) := hmine
  have HB : Hid (Below w.heap.size w w1) := hbelow
  have HG0 : Hid (w1.grownBy W2 (some w1.heap.size)) := grown_weak hgr _
  clear hmine hbelow hgr
  go_wp2_with fail
  go_loopw [9, 10] (fun v i wr => ∃ k : Nat, k ≤ sep.size ∧ i = .int .i64 k ∧ v = .slice (some ⟨w1.heap.size, 0, none⟩) k cap ∧ Own wr w1.heap.size cap ((bs sep).take k) ∧ w1.grownBy wr (some w1.heap.size)) (fun _ i _ => sep.size - (intOf i).toNat)
  case atStart => exact ⟨0, Nat.zero_le _, rfl, rfl, hown, HG0.out⟩
  case round =>
    obtain ⟨k, hk, rfl, rfl, ho, hg⟩ := hrel
    have HG : Hid (w1.grownBy wr (some w1.heap.size)) := hg
    have HO : Hid (Own wr w1.heap.size cap ((bs sep).take k)) := ho
    clear hg ho
    by_cases hlt : k < sep.size
    · have hlt' : (k : Int) < (sep.size : Int) := by omega
      obtain ⟨W', hrun, ho', hg'⟩ := app_gen HO.out (k := k) (by rw [List.length_take, bs_length]; omega) #[.int .u8 (sep[k].toNat : Int)] [(sep[k].toNat : Int)] 1 rfl (lit1 _) (by omega)
      rw [take_step sep k hlt] at ho'
      have HO' : Hid (Own W' w1.heap.size cap ((bs sep).take (k + 1))) := ho'
      have HG' : Hid (w1.grownBy W' (some w1.heap.size)) := grown_trans HG.out hg'
      clear ho' hg'
      go_wp2_with (at_builtin; refine wpList_app _ rfl _ _ 22 rfl _ _ rfl rfl hrun ?_)
      go_roundw
      case rel => exact ⟨k + 1, by omega, by go_num, rfl, HO'.out, HG'.out⟩
      case measure => simp [intOf]; omega
    · obtain rfl : k = sep.size := by omega
      have hlt' : ¬ (sep.size : Int) < (sep.size : Int) := by omega
      have ho := HO.out
      rw [List.take_of_length_le (by rw [bs_length]; exact Nat.le_refl _)] at ho
      obtain ⟨W3, hrun3, ho3, hg3⟩ := app_gen ho (bs_length sep) #[.int .u8 116, .int .u8 114, .int .u8 117, .int .u8 101] [116, 114, 117, 101] 4 rfl (lit4 _ _ _ _) (by omega)
      have hg3' := grown_trans HG.out hg3
      obtain ⟨W4, hrun4, ho4, hg4⟩ := app_mine ho3 (k := sep.size + 4) (by simp [bs_length]) (mine_kept HM.out hg3' (Nat.le_refl _)) (by omega)
      have hg4' := grown_trans hg3' hg4
      have hgs4 : w1.heap.size < W4.heap.size := own_lt ho4
      have HO4 : Hid (Own W4 w1.heap.size cap (bs sep ++ [116, 114, 117, 101] ++ ys)) := ho4
      have HB4 : Hid (Below w.heap.size w W4) := HB.out.grown hg4' hw1 (fun k hk => by injection hk; omega)
      have hl4 : Hid ((bs sep ++ [116, 114, 117, 101] ++ ys).length = sep.size + 4 + n) := by
        have := HM.out.len
        show (bs sep ++ [116, 114, 117, 101] ++ ys).length = sep.size + 4 + n
        simp [bs_length]; omega
      clear ho ho3 hg3 hg3' ho4 hg4 hg4' hk
      go_wp2_with (first | (at_builtin; refine wpList_app _ rfl _ _ 22 rfl _ _ rfl rfl hrun3 ?_; clear hrun3) | (at_builtin; refine wpList_app _ rfl _ _ 22 rfl _ _ rfl rfl hrun4 ?_; clear hrun4))
      refine (zboolean_true w1.heap.size (sep.size + 4 + n) cap (bs sep ++ [116, 114, 117, 101] ++ ys) sep.size W4.heap.size dst _ _ hl4.out (by simp; omega) (fun j hj => ?_) (by omega) (by omega) (by omega) (fun j hj => ?_) ?_ (by simp) (by simp) (by simp)).mono ?_
      · rw [World.cell?_alloc_old _ _ _ (by show w1.heap.size ≠ _; omega)]
        exact own_cell HO4.out j (by rw [hl4.out]; exact hj)
      · rw [List.append_assoc, bt_app_left (by rw [bs_length]; exact hj)]
        exact HA.out j hj
      · rw [List.append_assoc]
        have := bt_app_right (bs sep) ([116, 114, 117, 101] ++ ys) 0
        rw [bs_length, Nat.add_zero] at this
        rw [this]; rfl
      rintro e w5 ⟨rfl, hdst, hbel⟩
      have HB5 : Hid (Below w.heap.size w w5) := (HB4.out.alloc (by omega) _).trans (hbel.mono (by omega))
      clear hbel
      go_wp2
      go_ret
      exact ⟨by simp, HB5.out⟩

set_option maxHeartbeats 4000000 in
set_option maxRecDepth 100000 in
theorem law3_false (sep : ByteArray) (a : Option Addr) (n c : Nat) (ys : List Int) (dst : Bool) (w : World) (hcame : Came w a n ys) (hsum : sep.size + n ≤ 1048576) (hall : allSepB sep = true) :
    Calls Tryf.prog 3 #[.string sep, .bool false, .slice a n c, .bool dst] w fun e w' => e = .returned (.bool true) ∧ Below w.heap.size w w' := by
  have hd : decide (sep.size + n ≤ 1048576) = true := by simp [hsum]
  have HA : Hid (∀ j, j < sep.size → isSep (bt (bs sep) j) = true) := (allSepB_iff sep).1 hall
  have hd1 : decide ((1048576 : Int) < (sep.size : Int)) = false := by simp; omega
  have hd2 : decide ((1048576 : Int) < (n : Int)) = false := by simp; omega
  have hd3 : decide ((1048576 : Int) < (sep.size : Int) + (n : Int)) = false := by simp; omega
  go_enter Tryf.func3, Tryf.ntmps3
  go_wp2_with fail
  refine (zz11 _ _ _ _ _ _ _).mono ?_
  rintro e w' ⟨rfl, rfl⟩
  go_wp2_with fail
  refine (allSep_any _ _ (by omega)).mono ?_
  rintro e w' ⟨rfl, rfl⟩
  go_wp2_with fail
  refine (clone_any _ _ _ _ _ hcame (by omega)).mono ?_
  rintro e w1 ⟨a', c', rfl, hmine, hbelow⟩
  clear hcame hall
  obtain ⟨W2, hmk, hown, hgr⟩ := own_make w1 (sep.size + 5 + n) (by omega)
  have hmk' : (Instr.makeSlice 22 (.int .i64 0) (.int .i64 ((sep.size : Int) + 5 + (n : Int)))).run Tryf.prog w1 = .ok (.slice (some ⟨w1.heap.size, 0, none⟩) 0 (sep.size + 5 + n)) W2 := hmk
  clear hmk
  generalize hcE : sep.size + 5 + n = cap at hmk' hown
  have hcap : sep.size + 5 + n ≤ cap := by omega
  have hcap2 : cap ≤ 16777216 := by omega
  clear hcE
  have hw1 := hbelow.size
  have hgs : w1.heap.size < W2.heap.size := own_lt hown
  have HM : Hid (Mine w1 a' n c' ys) := hmine
  have HB : Hid (Below w.heap.size w w1) := hbelow
  have HG0 : Hid (w1.grownBy W2 (some w1.heap.size)) := grown_weak hgr _
  clear hmine hbelow hgr
  go_wp2_with fail
  go_loopw [9, 10] (fun v i wr => ∃ k : Nat, k ≤ sep.size ∧ i = .int .i64 k ∧ v = .slice (some ⟨w1.heap.size, 0, none⟩) k cap ∧ Own wr w1.heap.size cap ((bs sep).take k) ∧ w1.grownBy wr (some w1.heap.size)) (fun _ i _ => sep.size - (intOf i).toNat)
  case atStart => exact ⟨0, Nat.zero_le _, rfl, rfl, hown, HG0.out⟩
  case round =>
    obtain ⟨k, hk, rfl, rfl, ho, hg⟩ := hrel
    have HG : Hid (w1.grownBy wr (some w1.heap.size)) := hg
    have HO : Hid (Own wr w1.heap.size cap ((bs sep).take k)) := ho
    clear hg ho
    by_cases hlt : k < sep.size
    · have hlt' : (k : Int) < (sep.size : Int) := by omega
      obtain ⟨W', hrun, ho', hg'⟩ := app_gen HO.out (k := k) (by rw [List.length_take, bs_length]; omega) #[.int .u8 (sep[k].toNat : Int)] [(sep[k].toNat : Int)] 1 rfl (lit1 _) (by omega)
      rw [take_step sep k hlt] at ho'
      have HO' : Hid (Own W' w1.heap.size cap ((bs sep).take (k + 1))) := ho'
      have HG' : Hid (w1.grownBy W' (some w1.heap.size)) := grown_trans HG.out hg'
      clear ho' hg'
      go_wp2_with (at_builtin; refine wpList_app _ rfl _ _ 22 rfl _ _ rfl rfl hrun ?_)
      go_roundw
      case rel => exact ⟨k + 1, by omega, by go_num, rfl, HO'.out, HG'.out⟩
      case measure => simp [intOf]; omega
    · obtain rfl : k = sep.size := by omega
      have hlt' : ¬ (sep.size : Int) < (sep.size : Int) := by omega
      have ho := HO.out
      rw [List.take_of_length_le (by rw [bs_length]; exact Nat.le_refl _)] at ho
      obtain ⟨W3, hrun3, ho3, hg3⟩ := app_gen ho (bs_length sep) #[.int .u8 102, .int .u8 97, .int .u8 108, .int .u8 115, .int .u8 101] [102, 97, 108, 115, 101] 5 rfl (lit5 _ _ _ _ _) (by omega)
      have hg3' := grown_trans HG.out hg3
      obtain ⟨W4, hrun4, ho4, hg4⟩ := app_mine ho3 (k := sep.size + 5) (by simp [bs_length]) (mine_kept HM.out hg3' (Nat.le_refl _)) (by omega)
      have hg4' := grown_trans hg3' hg4
      have hgs4 : w1.heap.size < W4.heap.size := own_lt ho4
      have HO4 : Hid (Own W4 w1.heap.size cap (bs sep ++ [102, 97, 108, 115, 101] ++ ys)) := ho4
      have HB4 : Hid (Below w.heap.size w W4) := HB.out.grown hg4' hw1 (fun k hk => by injection hk; omega)
      have hl4 : Hid ((bs sep ++ [102, 97, 108, 115, 101] ++ ys).length = sep.size + 5 + n) := by
        have := HM.out.len
        show (bs sep ++ [102, 97, 108, 115, 101] ++ ys).length = sep.size + 5 + n
        simp [bs_length]; omega
      clear ho ho3 hg3 hg3' ho4 hg4 hg4' hk
      go_wp2_with (first | (at_builtin; refine wpList_app _ rfl _ _ 22 rfl _ _ rfl rfl hrun3 ?_; clear hrun3) | (at_builtin; refine wpList_app _ rfl _ _ 22 rfl _ _ rfl rfl hrun4 ?_; clear hrun4))
      refine (zboolean_false w1.heap.size (sep.size + 5 + n) cap (bs sep ++ [102, 97, 108, 115, 101] ++ ys) sep.size W4.heap.size dst _ _ hl4.out (by simp; omega) (fun j hj => ?_) (by omega) (by omega) (by omega) (fun j hj => ?_) ?_ (by simp) (by simp) (by simp)).mono ?_
      · rw [World.cell?_alloc_old _ _ _ (by show w1.heap.size ≠ _; omega)]
        exact own_cell HO4.out j (by rw [hl4.out]; exact hj)
      · rw [List.append_assoc, bt_app_left (by rw [bs_length]; exact hj)]
        exact HA.out j hj
      · rw [List.append_assoc]
        have := bt_app_right (bs sep) ([102, 97, 108, 115, 101] ++ ys) 0
        rw [bs_length, Nat.add_zero] at this
        rw [this]; rfl
      rintro e w5 ⟨rfl, hdst, hbel⟩
      have HB5 : Hid (Below w.heap.size w w5) := (HB4.out.alloc (by omega) _).trans (hbel.mono (by omega))
      clear hbel
      go_wp2
      go_ret
      exact ⟨by simp, HB5.out⟩

theorem law3_not (sep : ByteArray) (word : Bool) (a : Option Addr) (n c : Nat) (dst : Bool) (w : World) (hsum : sep.size + n ≤ 1048576) (hall : allSepB sep = false) :
    Calls Tryf.prog 3 #[.string sep, .bool word, .slice a n c, .bool dst] w fun e w' => e = .returned (.bool true) ∧ Below w.heap.size w w' := by
  have hd : decide (sep.size + n ≤ 1048576) = true := by simp [hsum]
  go_enter Tryf.func3, Tryf.ntmps3
  go_wp2_with fail
  refine (zz11 _ _ _ _ _ _ _).mono ?_
  rintro e w' ⟨rfl, rfl⟩
  go_wp2_with fail
  refine (allSep_any _ _ (by omega)).mono ?_
  rintro e w' ⟨rfl, rfl⟩
  go_wp2
  go_ret
  exact ⟨rfl, Below.refl _ _⟩

theorem law3_long (sep : ByteArray) (word : Bool) (a : Option Addr) (n c : Nat) (dst : Bool) (w : World) (hsum : ¬ sep.size + n ≤ 1048576) :
    Calls Tryf.prog 3 #[.string sep, .bool word, .slice a n c, .bool dst] w fun e w' => e = .returned (.bool true) ∧ Below w.heap.size w w' := by
  have hd : decide (sep.size + n ≤ 1048576) = false := by simp; omega
  go_enter Tryf.func3, Tryf.ntmps3
  go_wp2_with fail
  refine (zz11 _ _ _ _ _ _ _).mono ?_
  rintro e w' ⟨rfl, rfl⟩
  go_wp2
  go_ret
  exact ⟨rfl, Below.refl _ _⟩

/-- FnBooleanReadsWrittenWord returns true; nothing that was there turns. -/
theorem law3 (sep : ByteArray) (word : Bool) (a : Option Addr) (n c : Nat) (ys : List Int) (dst : Bool) (w : World) (hcame : Came w a n ys) :
    Calls Tryf.prog 3 #[.string sep, .bool word, .slice a n c, .bool dst] w fun e w' => e = .returned (.bool true) ∧ Below w.heap.size w w' := by
  by_cases hsum : sep.size + n ≤ 1048576
  · cases hall : allSepB sep with
    | false => exact law3_not sep word a n c dst w hsum hall
    | true =>
      cases word with
      | true => exact law3_true sep a n c ys dst w hcame hsum hall
      | false => exact law3_false sep a n c ys dst w hcame hsum hall
  · exact law3_long sep word a n c dst w hsum
end Go.Proofs.Qxb6001751aFmt
