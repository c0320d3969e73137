/-
  bigInteger (10), its shim (7), isASCIIDigit (6), the bound on the length (5): their contracts.
-/
import Derived.Test.Qxb6601452aDoorAbove
namespace Go.Proofs.Qxb6601452aDoor
open Go.RowKit

theorem zz5 (s : ByteArray) (w : World) :
    Calls Tryd.prog 5 #[.string s] w fun e w' => e = .returned (.bool (decide (s.size ≤ 1048576))) ∧ w = w' := by
  by_cases h : s.size ≤ 1048576
  · go_enter Tryd.func5, Tryd.ntmps5
    go_wp2
    go_ret
    exact ⟨by simp [h], rfl⟩
  · go_enter Tryd.func5, Tryd.ntmps5
    go_wp2
    go_ret
    exact ⟨by simp; omega, rfl⟩

/-- a decimal digit -/
def isDg (c : Int) : Bool := decide (48 ≤ c) && decide (c ≤ 57)
theorem isDg_iff (c : Int) : isDg c = true ↔ 48 ≤ c ∧ c ≤ 57 := by simp [isDg]

theorem digit6 (c : Int) (w : World) : Calls Tryd.prog 6 #[.int .u8 c] w fun e w' => e = .returned (.bool (isDg c)) ∧ w = w' := by
  by_cases h1 : 48 ≤ c
  · by_cases h2 : c ≤ 57
    · have e : isDg c = true := (isDg_iff c).2 ⟨h1, h2⟩
      have d1 : decide (48 ≤ c) = true := decide_eq_true h1
      have d2 : decide (c ≤ 57) = true := decide_eq_true h2
      go_enter Tryd.func6, Tryd.ntmps6
      go_wp2
      go_ret
      exact ⟨by rw [e]; rfl, rfl⟩
    · have e : isDg c = false := Bool.eq_false_iff.2 (fun h => h2 ((isDg_iff c).1 h).2)
      have d1 : decide (48 ≤ c) = true := decide_eq_true h1
      have d2 : decide (c ≤ 57) = false := decide_eq_false h2
      go_enter Tryd.func6, Tryd.ntmps6
      go_wp2
      go_ret
      first | exact ⟨by rw [e]; rfl, rfl⟩ | exact ⟨rfl, rfl⟩
  · have e : isDg c = false := Bool.eq_false_iff.2 (fun h => h1 ((isDg_iff c).1 h).1)
    have d1 : decide (48 ≤ c) = false := decide_eq_false h1
    go_enter Tryd.func6, Tryd.ntmps6
    go_wp2
    go_ret
    first | exact ⟨by rw [e]; rfl, rfl⟩ | exact ⟨rfl, rfl⟩

/-- a fraction or an exponent: false -/
theorem big_frac (s : ByteArray) (w : World) (hs : s.size ≤ 1048576) (hf : Lib.containsAny s.data.toList [46, 101, 69] = true) :
    Calls Tryd.prog 10 #[.string s] w fun e w' => e = .returned (.bool false) ∧ Below w.heap.size w w' := by
  have hc := contains_any s w hs
  rw [hf] at hc
  clear hf
  go_enter Tryd.func10, Tryd.ntmps10
  go_wp2_with fail
  refine hc.mono ?_
  clear hc
  rintro e w2 ⟨rfl, hb⟩
  go_wp2
  go_ret
  exact ⟨rfl, hb⟩

set_option maxHeartbeats 1000000 in
set_option maxRecDepth 100000 in
/-- digits, with or without a minus sign: is the number above 2^53? -/
theorem big_digits (s : ByteArray) (w : World) (hs : s.size ≤ 1048576) (hf : Lib.containsAny s.data.toList [46, 101, 69] = false) (l : List UInt8) (hl : Lib.trimPrefix s.data.toList [45] = l) (hne : l ≠ []) (hdg : ∀ c ∈ l, Dec.dg c) (hlen : l.length ≤ 1048576)
    (ev : Value) (hv : w.cell? ⟨1, 0, none⟩ = some ev) (hev : ev = .nilIface ∨ ∃ te pe, ev = .iface te pe) :
    Calls Tryd.prog 10 #[.string s] w fun e w' => e = .returned (.bool (decide (9007199254740992 < Dec.val l))) ∧ Below w.heap.size w w' := by
  have hc := contains_any s w hs
  rw [hf] at hc
  have htp := fun W => Tryd.strings_TrimPrefix s ⟨#[45]⟩ W
  have e1 : (⟨#[45]⟩ : ByteArray).data.toList = [45] := rfl
  rw [e1, hl] at htp
  clear hf hl e1
  have hsz : (⟨l.toArray⟩ : ByteArray).size = l.length := by simp [ByteArray.size]
  by_cases hval : Dec.val l ≤ 18446744073709551615
  · have hp := fun W => Tryd.strconv_ParseUint_10_at64_ok ⟨l.toArray⟩ (by rw [hsz]; omega) (Dec.val l) (Dec.parse_ok hne hdg hval) W
    generalize Dec.val l = V at hp hval ⊢
    clear hv hev hne hdg
    go_enter Tryd.func10, Tryd.ntmps10
    go_wp2_with fail
    refine hc.mono ?_
    clear hc
    rintro e w2 ⟨rfl, hb⟩
    go_wp2_with fail
    refine (htp _).mono ?_
    clear htp
    rintro e w3 ⟨rfl, rfl⟩
    go_wp2_with fail
    refine (hp _).mono ?_
    clear hp
    rintro e w4 ⟨rfl, hw⟩
    have HB : Hid (Below w.heap.size w w4) := by
      rcases hw with rfl | rfl
      · exact hb
      · exact hb.trans ((Lib.bytesWorld_below _ _ _).mono hb.size)
    clear hw hb
    go_wp2
    go_ret
    exact ⟨by simp; omega, HB.out⟩
  · have h2 : decide (9007199254740992 < Dec.val l) = true := decide_eq_true (by omega)
    rw [h2]
    have hpr : Lib.parseUintB 64 l = .range := Dec.parse_range hne hdg (by omega)
    have hp := fun W hv => Tryd.strconv_ParseUint_10_at64_range ⟨l.toArray⟩ (by rw [hsz]; omega) hpr ev W hv hev
    have h1 : 1 < w.heap.size := by
      apply Classical.byContradiction
      intro hn
      have e0 : w.heap[1]? = none := Array.getElem?_eq_none (by omega)
      simp [World.cell?, e0] at hv
    clear hev hne hdg h2 hval hpr
    go_enter Tryd.func10, Tryd.ntmps10
    go_wp2_with fail
    refine hc.mono ?_
    clear hc
    rintro e w2 ⟨rfl, hb⟩
    go_wp2_with fail
    refine (htp _).mono ?_
    clear htp
    rintro e w3 ⟨rfl, rfl⟩
    go_wp2_with fail
    refine (hp _ (by rw [hb.cell (p := ⟨1, 0, none⟩) h1]; exact hv)).mono ?_
    clear hp hv
    rintro e w4 ⟨N, rfl, _, _, hb2⟩
    have HB : Hid (Below w.heap.size w w4) := hb.trans (hb2.mono hb.size)
    clear hb hb2
    go_wp2
    go_ret
    exact ⟨by simp, HB.out⟩
/-- the shim -/
theorem shim7 (s : ByteArray) (w : World) (r : Bool) (h : Calls Tryd.prog 10 #[.string s] w fun e w' => e = .returned (.bool r) ∧ Below w.heap.size w w') :
    Calls Tryd.prog 7 #[.string s] w fun e w' => e = .returned (.bool r) ∧ Below w.heap.size w w' := by
  go_enter Tryd.func7, Tryd.ntmps7
  go_wp2_with fail
  refine h.mono ?_
  clear h
  rintro e w2 ⟨rfl, hb⟩
  go_wp2
  go_ret
  exact ⟨rfl, hb⟩
end Go.Proofs.Qxb6601452aDoor
