/-
  strings.IndexAny(s, ".eE") and strings.ContainsAny(s, ".eE") (functions 14, 11) at every string: their contracts.
-/
import Derived.Test.Qxb6601452aDoorRune
import Derived.Lib.IndexAny
import Derived.Lib.IndexBytes
namespace Go.Proofs.Qxb6601452aDoor
open Go.RowKit

theorem get_bang (s : ByteArray) (k : Nat) (h : k < s.size) : s.get! k = s[k]'h := by
  simp [ByteArray.get!, getElem!_pos, h]
  rfl

/-- a rune beyond ASCII: all its bytes are beyond ASCII -/
theorem decode_bytes (s : ByteArray) (pos : Nat) (h : pos < s.size) (ha : 128 ≤ (s[pos]'h).toNat) :
    ∀ j, j < (Utf8.decode s pos).2 → ∃ hj : pos + j < s.size, 128 ≤ (s[pos + j]'hj).toNat := by
  have h0 : ∃ hj : pos + 0 < s.size, 128 ≤ (s[pos + 0]'hj).toNat := ⟨h, ha⟩
  have hcont : ∀ k, (decide (pos + k < s.size) && (s.get! (pos + k)).toNat / 64 == 2) = true → ∃ hj : pos + k < s.size, 128 ≤ (s[pos + k]'hj).toNat := fun k hk => by
    have hk' := (Bool.and_eq_true _ _).mp hk
    have h1 := of_decide_eq_true hk'.1
    have h2 := beq_iff_eq.1 hk'.2
    rw [get_bang s (pos + k) h1] at h2
    exact ⟨h1, by omega⟩
  have hn : ¬ (s[pos]'h).toNat < 128 := by omega
  intro j hj
  have hj4 : ∀ n, (Utf8.decode s pos).2 = n → j < n := fun n e => by rw [← e]; exact hj
  simp only [Utf8.decode, get_at s pos h, hn, if_false] at hj
  split at hj
  · rename_i hc
    have hc' := (Bool.and_eq_true _ _).mp hc
    have c1 := hcont 1 hc'.2
    split at hj
    · have : j = 0 ∨ j = 1 := by have : j < 2 := hj; omega
      rcases this with rfl | rfl
      · exact h0
      · exact c1
    · obtain rfl : j = 0 := by have : j < 1 := hj; omega
      exact h0
  · split at hj
    · rename_i hc
      have hc' := (Bool.and_eq_true _ _).mp hc
      have hc'' := (Bool.and_eq_true _ _).mp hc'.1
      have c2 := hcont 2 hc'.2
      have c1 := hcont 1 hc''.2
      split at hj
      · have : j = 0 ∨ j = 1 ∨ j = 2 := by have : j < 3 := hj; omega
        rcases this with rfl | rfl | rfl
        · exact h0
        · exact c1
        · exact c2
      · obtain rfl : j = 0 := by have : j < 1 := hj; omega
        exact h0
    · split at hj
      · rename_i hc
        have hc' := (Bool.and_eq_true _ _).mp hc
        have hc'' := (Bool.and_eq_true _ _).mp hc'.1
        have hc3 := (Bool.and_eq_true _ _).mp hc''.1
        have c3 := hcont 3 hc'.2
        have c2 := hcont 2 hc''.2
        have c1 := hcont 1 hc3.2
        split at hj
        · have : j = 0 ∨ j = 1 ∨ j = 2 ∨ j = 3 := by have : j < 4 := hj; omega
          rcases this with rfl | rfl | rfl | rfl
          · exact h0
          · exact c1
          · exact c2
          · exact c3
        · obtain rfl : j = 0 := by have : j < 1 := hj; omega
          exact h0
      · obtain rfl : j = 0 := by have : j < 1 := hj; omega
        exact h0

theorem not_eE {x : UInt8} (h : 128 ≤ x.toNat) : ([46, 101, 69] : List UInt8).contains x = false := by
  rw [Bool.eq_false_iff]
  intro hc
  simp at hc
  rcases hc with rfl | rfl | rfl <;> simp at h

theorem noany_wide {s : ByteArray} {i n : Nat} (h : Lib.NoAny s.data.toList [46, 101, 69] i) (hb : ∀ j, j < n → ∃ hj : i + j < s.size, 128 ≤ (s[i + j]'hj).toNat) : Lib.NoAny s.data.toList [46, 101, 69] (i + n) := by
  induction n with
  | zero => exact h
  | succ n ih =>
    obtain ⟨hj, hx⟩ := hb n (by omega)
    exact Lib.NoAny.succ (ih (fun j hj => hb j (by omega))) (Lib.data_getElem? s (i + n) hj) (not_eE hx)

set_option maxHeartbeats 4000000 in
set_option maxRecDepth 100000 in
theorem any_short (s : ByteArray) (w : World) (h8 : s.size ≤ 8) :
    Calls Tryd.prog 14 #[.string s, .string ⟨#[46, 101, 69]⟩] w fun e w' => e = .returned (.int .i64 (Lib.indexAny s.data.toList [46, 101, 69])) ∧ Below w.heap.size w w' := by
  have h8z : decide ((8 : Int) < (s.size : Int)) = false := decide_eq_false (by omega)
  generalize hR : Lib.indexAny s.data.toList [46, 101, 69] = R
  have HR : Hid (Lib.indexAny s.data.toList [46, 101, 69] = R) := hR
  clear hR
  go_enter Tryd.func14, Tryd.ntmps14
  go_wp2_with fail
  refine (Tryd.strings_shouldUseASCIISet _ _).mono ?_
  rintro e w' ⟨rfl, hw⟩
  have hw' := hw.symm
  subst hw'
  clear hw
  go_wp2_with fail
  go_loopg [9, 10] s.size (fun g _ _ wx => ∃ i : Nat, i ≤ s.size ∧ g = s.size - i ∧ wx.heap[w.heap.size]? = some (.stringIter s i) ∧ Below w.heap.size w wx ∧ Lib.NoAny s.data.toList [46, 101, 69] i)
  case atStart => exact ⟨0, Nat.zero_le _, rfl, World.iter_heap _ _ _, (Below.refl _ _).alloc (Nat.le_refl _) _, Lib.NoAny.zero _ _⟩
  case round =>
    obtain ⟨i, hi, hgk, hk, hbel, hno⟩ := hrel
    have HG : Hid (gk = s.size - i) := hgk
    have HN : Hid (Lib.NoAny s.data.toList [46, 101, 69] i) := hno
    have HB : Hid (Below w.heap.size w wr) := hbel
    clear hgk hno hbel
    by_cases hlt : i < s.size
    · by_cases hx : (s[i]'hlt).toNat < 128
      · obtain ⟨W', hnx, hk', hb'⟩ : ∃ W', (∀ ty, (Instr.next (.pointer (some ⟨w.heap.size, 0, none⟩)) true ty).run Tryd.prog wr = .ok (.tuple #[.bool true, .int .i64 i, .int .i32 (s[i]'hlt).toNat]) W') ∧ W'.heap[w.heap.size]? = some (.stringIter s (i + 1)) ∧ Below w.heap.size w W' :=
          ⟨_, fun ty => Lib.run_next_ascii_at wr _ s i ty hk hlt hx, Lib.iterAt_heap wr _ s i _ hk, Lib.below_iterAt HB.out (Nat.le_refl _) _ _⟩
        have HK : Hid (W'.heap[w.heap.size]? = some (.stringIter s (i + 1))) := hk'
        have HB' : Hid (Below w.heap.size w W') := hb'
        have hxl := Lib.data_getElem? s i hlt
        have HX : Hid (s.data.toList[i]? = some (s[i]'hlt)) := hxl
        have hcon := Lib.contains_iff_indexByte [46, 101, 69] (s[i]'hlt)
        have hback : (((s[i]'hlt).toNat : Int)).toNat.toUInt8 = s[i]'hlt := by simp
        have hrune := Tryd.strings_IndexRune_ascii ⟨#[46, 101, 69]⟩ ((s[i]'hlt).toNat : Int) W' (by omega) (by omega)
        rw [hback] at hrune
        generalize (s[i]'hlt) = x at hnx hx HX hcon hrune
        clear hk hk' hb' hback hxl
        cases hin : ([46, 101, 69] : List UInt8).contains x with
        | false =>
          rw [hin] at hcon
          have hneg : ¬ (0 : Int) ≤ Lib.indexByte [46, 101, 69] x := of_decide_eq_false hcon.symm
          have HI : Hid (([46, 101, 69] : List UInt8).contains x = false) := hin
          clear hcon hin
          go_wp2_with fail
          refine hrune.mono ?_
          clear hrune
          rintro e w2 ⟨rfl, rfl⟩
          go_wp2
          go_roundg (s.size - (i + 1))
          case measure => have := HG.out; omega
          case rel => exact ⟨i + 1, by omega, rfl, HK.out, HB'.out, HN.out.succ HX.out HI.out⟩
        | true =>
          rw [hin] at hcon
          have hpos : (0 : Int) ≤ Lib.indexByte [46, 101, 69] x := of_decide_eq_true hcon.symm
          have HE : Hid (R = (i : Int)) := by rw [← HR.out]; exact Lib.indexAny_hit HN.out HX.out hin
          clear hcon hin
          go_wp2_with fail
          refine hrune.mono ?_
          clear hrune
          rintro e w2 ⟨rfl, rfl⟩
          go_wp2
          go_ret
          exact ⟨by rw [HE.out]; rfl, HB'.out⟩
      · have hx' : 128 ≤ (s[i]'hlt).toNat := by omega
        obtain ⟨W', hnx, hk', hb'⟩ : ∃ W', (∀ ty, (Instr.next (.pointer (some ⟨w.heap.size, 0, none⟩)) true ty).run Tryd.prog wr = .ok (.tuple #[.bool true, .int .i64 i, .int .i32 (Utf8.decode s i).1]) W') ∧ W'.heap[w.heap.size]? = some (.stringIter s (i + (Utf8.decode s i).2)) ∧ Below w.heap.size w W' :=
          ⟨_, fun ty => Lib.run_next_any_at wr _ s i ty hk hlt, Lib.iterAt_heap wr _ s i _ hk, Lib.below_iterAt HB.out (Nat.le_refl _) _ _⟩
        obtain ⟨d1, d2⟩ := decode_high s i hlt hx'
        have hbytes := decode_bytes s i hlt hx'
        have HN' : Hid (Lib.NoAny s.data.toList [46, 101, 69] (i + (Utf8.decode s i).2)) := noany_wide HN.out hbytes
        have hend : i + (Utf8.decode s i).2 ≤ s.size := by
          obtain ⟨hj, _⟩ := hbytes ((Utf8.decode s i).2 - 1) (by omega)
          omega
        clear hbytes hk hx hx'
        generalize (Utf8.decode s i).1 = r at hnx d1
        generalize (Utf8.decode s i).2 = n at hk' d2 HN' hend
        have HK : Hid (W'.heap[w.heap.size]? = some (.stringIter s (i + n))) := hk'
        have HB' : Hid (Below w.heap.size w W') := hb'
        have hrune := rune_high (r : Int) W' (by omega)
        have hsz : w.heap.size < W'.heap.size := (Array.getElem?_eq_some_iff.1 hk').1
        clear hk' hb'
        go_wp2_with fail
        refine hrune.mono ?_
        clear hrune
        rintro e w2 ⟨rfl, hb2⟩
        have HK2 : Hid (w2.heap[w.heap.size]? = some (.stringIter s (i + n))) := by
          show w2.heap[w.heap.size]? = some (.stringIter s (i + n))
          rw [hb2.block _ hsz]; exact HK.out
        have HB2 : Hid (Below w.heap.size w w2) := HB'.out.trans (hb2.mono (by omega))
        clear hb2
        go_wp2
        go_roundg (s.size - (i + n))
        case measure => have := HG.out; omega
        case rel => exact ⟨i + n, hend, rfl, HK2.out, HB2.out, HN'.out⟩
    · obtain rfl : i = s.size := by omega
      have hnx := fun ty => Lib.run_next_end_at (P := Tryd.prog) wr w.heap.size s s.size ty hk (by omega)
      have HE : Hid (R = -1) := by rw [← HR.out]; exact Lib.indexAny_none (by rw [← Lib.size_eq]; exact HN.out)
      clear hk hlt hi
      go_wp2
      go_ret
      exact ⟨by rw [HE.out]; rfl, HB.out⟩

theorem zero40 : ∀ w, (zeroValue 40).run Tryd.prog w = .ok (.agg (Array.replicate 256 (.bool false))) w := fun w => by kernel_rfl

/-- IndexAny(s, ".eE"): the first place of one of the three, or -1. -/
theorem any_any (s : ByteArray) (w : World) (hs : s.size ≤ 1048576) :
    Calls Tryd.prog 14 #[.string s, .string ⟨#[46, 101, 69]⟩] w fun e w' => e = .returned (.int .i64 (Lib.indexAny s.data.toList [46, 101, 69])) ∧ Below w.heap.size w w' := by
  by_cases h8 : s.size ≤ 8
  · exact any_short s w h8
  · refine (Tryd.strings_IndexAny_long zero40 s ⟨#[46, 101, 69]⟩ w (by decide) (by omega) (by omega) (by decide) (fun j b hj => ?_)).mono fun e w' ⟨he, hw⟩ => ⟨he, ?_⟩
    · match j, hj with
      | 0, hj => cases hj; decide
      | 1, hj => cases hj; decide
      | 2, hj => cases hj; decide
      | n + 3, hj => cases hj
    · rw [hw]; exact ((Below.refl _ _).alloc (Nat.le_refl _) _).alloc (by simp) _

/-- ContainsAny(s, ".eE") -/
theorem contains_any (s : ByteArray) (w : World) (hs : s.size ≤ 1048576) :
    Calls Tryd.prog 11 #[.string s, .string ⟨#[46, 101, 69]⟩] w fun e w' => e = .returned (.bool (Lib.containsAny s.data.toList [46, 101, 69])) ∧ Below w.heap.size w w' := by
  have hany := any_any s w hs
  generalize hR : Lib.containsAny s.data.toList [46, 101, 69] = R
  have HR : Hid (R = decide (0 ≤ Lib.indexAny s.data.toList [46, 101, 69])) := hR.symm
  clear hR
  generalize Lib.indexAny s.data.toList [46, 101, 69] = q at hany HR
  go_enter Tryd.func11, Tryd.ntmps11
  go_wp2_with fail
  refine hany.mono ?_
  clear hany
  rintro e w2 ⟨rfl, hb⟩
  go_wp2
  go_ret
  exact ⟨by rw [HR.out]; rfl, hb⟩
end Go.Proofs.Qxb6601452aDoor
