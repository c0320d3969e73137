/-
  The walks of FnPatternFormsOrderedByGenerality (function 6) and what it calls: 18, 19, 28.
-/
import Derived.Test.Qxb6603091aShelf
import Derived.WalkKit
import Derived.ProofKit
import Derived.Below
import Derived.Lib.IndexMore
namespace Go.Proofs.Qxb6603091a
open Go.RowKit

/-! ### plain -/
theorem index_prefix {s p : List UInt8} (h : p.isPrefixOf s = true) : 0 ≤ Lib.index s p := by
  cases s with
  | nil =>
    cases p with
    | nil => exact Int.le_refl _
    | cons _ _ => simp [List.isPrefixOf] at h
  | cons b l => unfold Lib.index; rw [if_pos h]; exact Int.le_refl _
theorem index_tail {b : UInt8} {l p : List UInt8} (h : 0 ≤ Lib.index l p) : 0 ≤ Lib.index (b :: l) p := by
  unfold Lib.index
  split
  · exact Int.le_refl _
  · split
    · rename_i h2; have := beq_iff_eq.1 h2; omega
    · omega
theorem index_suffix (t p : List UInt8) : 0 ≤ Lib.index (t ++ p) p := by
  induction t with
  | nil => exact index_prefix (by simp)
  | cons b l ih => exact index_tail ih
theorem contains_prefix {s p : List UInt8} (h : Lib.hasPrefix s p = true) : Lib.contains s p = true := decide_eq_true (index_prefix h)
theorem contains_suffix {s p : List UInt8} (h : Lib.hasSuffix s p = true) : Lib.contains s p = true := by
  obtain ⟨t, rfl⟩ := List.isSuffixOf_iff_suffix.1 h
  exact decide_eq_true (index_suffix t p)
theorem contains_empty {p : List UInt8} (h : Lib.contains [] p = true) : p = [] := by
  cases p with
  | nil => rfl
  | cons _ _ => simp [Lib.contains, Lib.index] at h
theorem prefix_self (s : List UInt8) : Lib.hasPrefix s s = true := by unfold Lib.hasPrefix; simp
theorem suffix_self (s : List UInt8) : Lib.hasSuffix s s = true := List.isSuffixOf_iff_suffix.2 (List.suffix_refl s)

/-! ### walks -/
theorem zz18 (s1 s2 : ByteArray) (w : World) :
    Calls Try.prog 18 #[.string s1, .string s2] w fun e w' => e = .returned (.bool (decide (s1.size + s2.size ≤ 1048576))) ∧ w = w' := by
  by_cases h1 : s1.size ≤ 1048576
  · by_cases h2 : s2.size ≤ 1048576
    · by_cases h3 : s1.size + s2.size ≤ 1048576
      · go_enter Try.func18, Try.ntmps18
        go_wp2
        go_ret
        exact ⟨by simp [h3], rfl⟩
      · go_enter Try.func18, Try.ntmps18
        go_wp2
        go_ret
        exact ⟨by simp; omega, rfl⟩
    · go_enter Try.func18, Try.ntmps18
      go_wp2
      go_ret
      exact ⟨by simp; omega, rfl⟩
  · go_enter Try.func18, Try.ntmps18
    go_wp2
    go_ret
    exact ⟨by simp; omega, rfl⟩

theorem cov1 (t v : ByteArray) (w : World) :
    Calls Try.prog 28 #[.agg #[.int .u8 1, .string t], .string v] w fun e w' => e = .returned (.bool (Lib.hasPrefix v.data.toList t.data.toList)) ∧ w' = w.alloc (.cells #[.int .u8 1, .string t] 41) := by
  go_enter Try.func28, Try.ntmps28
  go_wp2_with fail
  refine (Try.strings_HasPrefix _ _ _).mono ?_
  rintro e w' ⟨rfl, rfl⟩
  go_wp2
  go_ret
  exact ⟨rfl, rfl⟩
theorem cov2 (t v : ByteArray) (w : World) (hv : v.size ≤ 1048576) :
    Calls Try.prog 28 #[.agg #[.int .u8 2, .string t], .string v] w fun e w' => e = .returned (.bool (Lib.hasSuffix v.data.toList t.data.toList)) ∧ w' = w.alloc (.cells #[.int .u8 2, .string t] 41) := by
  go_enter Try.func28, Try.ntmps28
  go_wp2_with fail
  refine (Try.strings_HasSuffix _ _ _ (by omega)).mono ?_
  rintro e w' ⟨rfl, rfl⟩
  go_wp2
  go_ret
  exact ⟨rfl, rfl⟩
theorem cov3 (t v : ByteArray) (m : Int) (w : World) (hv : v.size ≤ 1048576) (hm : ∀ o, (w.alloc o).cell? ⟨0, 0, none⟩ = some (.int .i64 m)) :
    Calls Try.prog 28 #[.agg #[.int .u8 3, .string t], .string v] w fun e w' => e = .returned (.bool (Lib.contains v.data.toList t.data.toList)) ∧ w' = w.alloc (.cells #[.int .u8 3, .string t] 41) := by
  have HM : Hid (∀ o, (w.alloc o).cell? ⟨0, 0, none⟩ = some (.int .i64 m)) := hm
  clear hm
  go_enter Try.func28, Try.ntmps28
  go_wp2_with fail
  refine (Try.strings_Contains _ _ m _ (by omega) (HM.out _)).mono ?_
  rintro e w' ⟨rfl, rfl⟩
  go_wp2
  go_ret
  exact ⟨rfl, rfl⟩
theorem cov4 (t v : ByteArray) (w : World) :
    Calls Try.prog 28 #[.agg #[.int .u8 4, .string t], .string v] w fun e w' => e = .returned (.bool true) ∧ w' = w.alloc (.cells #[.int .u8 4, .string t] 41) := by
  go_enter Try.func28, Try.ntmps28
  go_wp2
  go_ret
  exact ⟨rfl, rfl⟩
theorem cov5 (t v : ByteArray) (w : World) :
    Calls Try.prog 28 #[.agg #[.int .u8 5, .string t], .string v] w fun e w' => e = .returned (.bool (!v.toList.isEmpty)) ∧ w' = w.alloc (.cells #[.int .u8 5, .string t] 41) := by
  go_enter Try.func28, Try.ntmps28
  go_wp2
  go_ret
  exact ⟨rfl, rfl⟩
theorem cov0 (t v : ByteArray) (w : World) :
    Calls Try.prog 28 #[.agg #[.int .u8 0, .string t], .string v] w fun e w' => e = .returned (.bool (v.toList == t.toList)) ∧ w' = w.alloc (.cells #[.int .u8 0, .string t] 41) := by
  go_enter Try.func28, Try.ntmps28
  go_wp2
  go_ret
  exact ⟨rfl, rfl⟩

theorem zcov (k : Int) (t v : ByteArray) (R : Bool) (w W' : World) (h : Calls Try.prog 28 #[.agg #[.int .u8 k, .string t], .string v] w fun e w' => e = .returned (.bool R) ∧ w' = W') :
    Calls Try.prog 19 #[.int .u8 k, .string t, .string v] w fun e w' => e = .returned (.bool R) ∧ W' = w' := by
  have HX : Hid (Calls Try.prog 28 #[.agg #[.int .u8 k, .string t], .string v] w fun e w' => e = .returned (.bool R) ∧ w' = W') := h
  clear h
  go_enter Try.func19, Try.ntmps19
  go_wp2_with fail
  refine HX.out.mono ?_
  rintro e w' ⟨rfl, rfl⟩
  clear HX
  go_wp2
  go_ret
  exact ⟨rfl, rfl⟩

/-- how the six answers hang together -/
def BF (b0 b1 b2 b3 b5 : Bool) (n : Nat) : Prop := (b0 = true → b1 = true ∧ b2 = true) ∧ (b1 = true → b3 = true) ∧ (b2 = true → b3 = true) ∧ (b3 = true → 0 < n → b5 = true)
theorem b_facts (t v : ByteArray) : BF (v.toList == t.toList) (Lib.hasPrefix v.data.toList t.data.toList) (Lib.hasSuffix v.data.toList t.data.toList) (Lib.contains v.data.toList t.data.toList) (!v.toList.isEmpty) t.size := by
  refine ⟨fun h => ?_, contains_prefix, contains_suffix, fun h h0 => ?_⟩
  · have e := beq_iff_eq.1 h
    rw [Lib.toList_data, Lib.toList_data] at e
    rw [e]
    exact ⟨prefix_self _, suffix_self _⟩
  · rw [Lib.toList_data]
    cases hv : v.data.toList with
    | nil =>
      rw [hv] at h
      have := contains_empty h
      rw [Lib.size_eq, this] at h0
      simp at h0
    | cons _ _ => rfl

theorem cell_up {w : World} {m : Int} (hm : w.cell? ⟨0, 0, none⟩ = some (.int .i64 m)) (o : Obj) : (w.alloc o).cell? ⟨0, 0, none⟩ = some (.int .i64 m) := by
  have hlt : 0 < w.heap.size := by
    apply Classical.byContradiction
    intro hn
    have : w.cell? ⟨0, 0, none⟩ = none := by
      unfold World.cell?
      simp [Array.getElem?_eq_none (by omega : w.heap.size ≤ 0)]
    rw [this] at hm; cases hm
  rw [World.cell?_alloc_old _ _ _ (by show 0 ≠ _; omega)]; exact hm

set_option maxHeartbeats 4000000 in
set_option maxRecDepth 100000 in
theorem law6 (t v : ByteArray) (m : Int) (w : World) (hm : w.cell? ⟨0, 0, none⟩ = some (.int .i64 m)) :
    Calls Try.prog 6 #[.string t, .string v] w fun e w' => e = .returned (.bool true) ∧ Grown w w' := by
  have HM : Hid (w.cell? ⟨0, 0, none⟩ = some (.int .i64 m)) := hm
  clear hm
  by_cases hsum : t.size + v.size ≤ 1048576
  · have hd : decide (t.size + v.size ≤ 1048576) = true := by simp [hsum]
    by_cases hv : v.size ≤ 65536
    · by_cases ht : t.size ≤ 65536
      · have hv2 : v.size ≤ 1048576 := by omega
        have HF : Hid (BF (v.toList == t.toList) (Lib.hasPrefix v.data.toList t.data.toList) (Lib.hasSuffix v.data.toList t.data.toList) (Lib.contains v.data.toList t.data.toList) (!v.toList.isEmpty) t.size) := b_facts t v
        go_enter Try.func6, Try.ntmps6
        go_wp2_with fail
        refine (zz18 _ _ _).mono ?_
        rintro e w' ⟨rfl, rfl⟩
        go_wp2_with fail
        refine (zcov 0 t v _ _ _ (cov0 t v _)).mono ?_
        rintro e w' ⟨rfl, rfl⟩
        go_wp2_with fail
        refine (zcov 1 t v _ _ _ (cov1 t v _)).mono ?_
        rintro e w' ⟨rfl, rfl⟩
        go_wp2_with fail
        refine (zcov 2 t v _ _ _ (cov2 t v _ hv2)).mono ?_
        rintro e w' ⟨rfl, rfl⟩
        go_wp2_with fail
        refine (zcov 3 t v _ _ _ (cov3 t v m _ hv2 (fun o => cell_up (cell_up (cell_up (cell_up HM.out _) _) _) o))).mono ?_
        rintro e w' ⟨rfl, rfl⟩
        go_wp2_with fail
        refine (zcov 4 t v _ _ _ (cov4 t v _)).mono ?_
        rintro e w' ⟨rfl, rfl⟩
        go_wp2_with fail
        refine (zcov 5 t v _ _ _ (cov5 t v _)).mono ?_
        rintro e w' ⟨rfl, rfl⟩
        generalize (v.toList == t.toList) = b0 at HF ⊢
        generalize Lib.hasPrefix v.data.toList t.data.toList = b1 at HF ⊢
        generalize Lib.hasSuffix v.data.toList t.data.toList = b2 at HF ⊢
        generalize Lib.contains v.data.toList t.data.toList = b3 at HF ⊢
        generalize (!v.toList.isEmpty) = b5 at HF ⊢
        obtain ⟨f1, f2, f3, f4⟩ := HF.out
        clear HF
        cases b3 with
        | false =>
          obtain rfl : b1 = false := by cases b1 with | false => rfl | true => exact absurd (f2 rfl) (by simp)
          obtain rfl : b2 = false := by cases b2 with | false => rfl | true => exact absurd (f3 rfl) (by simp)
          obtain rfl : b0 = false := by cases b0 with | false => rfl | true => exact absurd (f1 rfl).1 (by simp)
          clear f1 f2 f3 f4
          cases b5
          all_goals
            go_wp2
            go_ret
            exact ⟨rfl, by repeat (first | exact Grown.refl _ | apply Grown.drew | apply Grown.alloc)⟩
        | true =>
          by_cases h0 : 0 < t.size
          · obtain rfl := f4 rfl h0
            have i0 : (0 : Int) < (t.size : Int) := by omega
            cases b0 with
            | true =>
              obtain ⟨rfl, rfl⟩ := f1 rfl
              clear f1 f2 f3 f4
              go_wp2
              go_ret
              exact ⟨rfl, by repeat (first | exact Grown.refl _ | apply Grown.drew | apply Grown.alloc)⟩
            | false =>
              clear f1 f2 f3 f4
              cases b1 <;> cases b2
              all_goals
                go_wp2
                go_ret
                exact ⟨rfl, by repeat (first | exact Grown.refl _ | apply Grown.drew | apply Grown.alloc)⟩
          · have i0 : ¬ (0 : Int) < (t.size : Int) := by omega
            cases b0 with
            | true =>
              obtain ⟨rfl, rfl⟩ := f1 rfl
              clear f1 f2 f3 f4
              cases b5
              all_goals
                go_wp2
                go_ret
                exact ⟨rfl, by repeat (first | exact Grown.refl _ | apply Grown.drew | apply Grown.alloc)⟩
            | false =>
              clear f1 f2 f3 f4
              cases b1 <;> cases b2 <;> cases b5
              all_goals
                go_wp2
                go_ret
                exact ⟨rfl, by repeat (first | exact Grown.refl _ | apply Grown.drew | apply Grown.alloc)⟩
      · go_enter Try.func6, Try.ntmps6
        go_wp2_with fail
        refine (zz18 _ _ _).mono ?_
        rintro e w' ⟨rfl, rfl⟩
        go_wp2
        go_ret
        exact ⟨rfl, Grown.refl _⟩
    · go_enter Try.func6, Try.ntmps6
      go_wp2_with fail
      refine (zz18 _ _ _).mono ?_
      rintro e w' ⟨rfl, rfl⟩
      go_wp2
      go_ret
      exact ⟨rfl, Grown.refl _⟩
  · have hd : decide (t.size + v.size ≤ 1048576) = false := by simp; omega
    go_enter Try.func6, Try.ntmps6
    go_wp2_with fail
    refine (zz18 _ _ _).mono ?_
    rintro e w' ⟨rfl, rfl⟩
    go_wp2
    go_ret
    exact ⟨rfl, Grown.refl _⟩
end Go.Proofs.Qxb6603091a
