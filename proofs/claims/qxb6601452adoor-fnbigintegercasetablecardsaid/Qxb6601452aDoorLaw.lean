/-
  The law (function 3): it returns true at every text.
-/
import Derived.Test.Qxb6601452aDoorBig
namespace Go.Proofs.Qxb6601452aDoor
open Go.RowKit

/-- one of '.', 'e', 'E' -/
def isFe (c : UInt8) : Bool := c.toNat == 46 || c.toNat == 101 || c.toNat == 69
/-- does one stand in it? -/
def fe (l : List UInt8) : Bool := l.any isFe

theorem fe_contains (l : List UInt8) : Lib.containsAny l [46, 101, 69] = fe l := by
  unfold Lib.containsAny
  induction l with
  | nil => rfl
  | cons b l ih =>
    have hge := Lib.indexAny_ge [46, 101, 69] l
    have e : fe (b :: l) = (isFe b || fe l) := rfl
    rw [e, ← ih]
    have eu : Lib.indexAny (b :: l) [46, 101, 69] = if ([46, 101, 69] : List UInt8).contains b then 0 else if Lib.indexAny l [46, 101, 69] == -1 then -1 else Lib.indexAny l [46, 101, 69] + 1 := rfl
    rw [eu]
    have hb : (([46, 101, 69] : List UInt8).contains b) = isFe b := by
      apply Bool.eq_iff_iff.2
      simp [isFe, ← UInt8.toNat_inj, or_assoc]
    rw [hb]
    cases h : isFe b
    · rw [if_neg (by simp), Bool.false_or]
      apply decide_eq_decide.2
      split
      · rename_i h1
        have := beq_iff_eq.1 h1
        omega
      · rename_i h1
        have : Lib.indexAny l [46, 101, 69] ≠ -1 := fun e => h1 (beq_iff_eq.2 e)
        omega
    · rw [if_pos rfl, Bool.true_or]
      rfl

theorem fe_take_succ (s : ByteArray) (k : Nat) (h : k < s.size) : fe (s.data.toList.take (k + 1)) = (fe (s.data.toList.take k) || isFe (s[k]'h)) := by
  rw [List.take_add_one, list_at s k h]
  simp [fe]

theorem trim_cases (s : ByteArray) : ∃ M : ByteArray, Lib.trimPrefix s.data.toList [45] = M.data.toList ∧ M.size ≤ s.size ∧
    ((s = M ∧ ¬ 0 < s.size) ∨ (∃ h : 0 < s.size, s = M ∧ (((s[0]'h).toNat : Int) == 45) = false) ∨ (∃ h : 0 < s.size, (((s[0]'h).toNat : Int) == 45) = true ∧ ∀ W, (Instr.slice 9 (.string s) (some (.int .i64 1)) none none).run Tryd.prog W = .ok (.string M) W)) := by
  by_cases h0 : 0 < s.size
  · have ha := list_at s 0 h0
    by_cases h45 : (s[0]'h0).toNat = 45
    · obtain ⟨M, hsl, hMl, hMs⟩ := cut s 1 (by omega)
      refine ⟨M, ?_, by omega, .inr (.inr ⟨h0, beq_iff_eq.2 (by omega), hsl⟩)⟩
      rw [hMl]
      cases hl : s.data.toList with
      | nil => rw [hl] at ha; simp at ha
      | cons b l =>
        rw [hl] at ha
        have eb : b = s[0]'h0 := by simpa using ha
        have e45 : b = 45 := by rw [eb]; exact UInt8.toNat_inj.1 h45
        rw [e45]
        simp [Lib.trimPrefix, Lib.hasPrefix]
    · refine ⟨s, ?_, Nat.le_refl _, .inr (.inl ⟨h0, rfl, beq_eq_false_iff_ne.2 (by omega)⟩)⟩
      cases hl : s.data.toList with
      | nil => rw [hl] at ha; simp at ha
      | cons b l =>
        rw [hl] at ha
        have eb : b = s[0]'h0 := by simpa using ha
        have e45 : ¬ b = 45 := by
          intro e
          apply h45
          rw [← eb, e]; rfl
        have e45' : ¬ 45 = b := fun e => e45 e.symm
        simp [Lib.trimPrefix, Lib.hasPrefix, e45']
  · refine ⟨s, ?_, Nat.le_refl _, .inl ⟨rfl, h0⟩⟩
    have hl : s.data.toList = [] := List.eq_nil_of_length_eq_zero (by rw [← Lib.size_eq]; omega)
    rw [hl]; rfl

set_option maxHeartbeats 4000000 in
set_option maxRecDepth 100000 in
theorem law_walk (s : ByteArray) (w : World) (ev : Value) (hv : w.cell? ⟨1, 0, none⟩ = some ev) (hev : ev = .nilIface ∨ ∃ te pe, ev = .iface te pe) :
    Calls Tryd.prog 3 #[.string s] w fun e w' => e = .returned (.bool true) ∧ Below w.heap.size w w' := by
  by_cases hb1 : s.size ≤ 1048576
  case neg =>
    have hz := zz5 s w
    rw [decide_eq_false hb1] at hz
    clear hb1
    go_enter Tryd.func3, Tryd.ntmps3
    go_wp2_with fail
    refine hz.mono ?_
    clear hz
    rintro e w2 ⟨rfl, rfl⟩
    go_wp2
    go_ret
    exact ⟨rfl, Below.refl _ _⟩
  have hz := zz5 s w
  rw [decide_eq_true hb1] at hz
  by_cases hb2 : s.size ≤ 65536
  case neg =>
    have hb3 : (65536 : Int) < (s.size : Int) := by omega
    go_enter Tryd.func3, Tryd.ntmps3
    go_wp2_with fail
    refine hz.mono ?_
    clear hz
    rintro e w2 ⟨rfl, rfl⟩
    go_wp2
    go_ret
    exact ⟨rfl, Below.refl _ _⟩
  have hb3 : ¬ (65536 : Int) < (s.size : Int) := by omega
  have HV : Hid (w.cell? ⟨1, 0, none⟩ = some ev) := hv
  have HE : Hid (ev = .nilIface ∨ ∃ te pe, ev = .iface te pe) := hev
  clear hv hev
  go_enter Tryd.func3, Tryd.ntmps3
  go_wp2_with fail
  refine hz.mono ?_
  clear hz
  rintro e w2 ⟨rfl, rfl⟩
  go_wp2
  go_loop [3, 4] (fun f i => ∃ k : Nat, k ≤ s.size ∧ i = .int .i64 k ∧ f = .bool (fe (s.data.toList.take k))) (fun f i => s.size - (intOf i).toNat)
  case atStart => exact ⟨0, by omega, rfl, rfl⟩
  case round =>
    obtain ⟨k, hk, rfl, rfl⟩ := hrel
    by_cases hlt : k < s.size
    · have hlt1 : (k : Int) < (s.size : Int) := by omega
      have HS := fe_take_succ s k hlt
      generalize hX : fe (s.data.toList.take (k + 1)) = F2 at HS
      have HX : Hid (fe (s.data.toList.take (k + 1)) = F2) := hX
      clear hX
      generalize fe (s.data.toList.take k) = F1 at HS ⊢
      have hcase : ((((s[k]'hlt).toNat : Int) == 46) = true ∧ F2 = true) ∨ ((((s[k]'hlt).toNat : Int) == 46) = false ∧ (((s[k]'hlt).toNat : Int) == 101) = true ∧ F2 = true) ∨ ((((s[k]'hlt).toNat : Int) == 46) = false ∧ (((s[k]'hlt).toNat : Int) == 101) = false ∧ (((s[k]'hlt).toNat : Int) == 69) = true ∧ F2 = true) ∨ ((((s[k]'hlt).toNat : Int) == 46) = false ∧ (((s[k]'hlt).toNat : Int) == 101) = false ∧ (((s[k]'hlt).toNat : Int) == 69) = false ∧ F2 = F1) := by
        have hi : isFe (s[k]'hlt) = ((((s[k]'hlt).toNat : Int) == 46) || (((s[k]'hlt).toNat : Int) == 101) || (((s[k]'hlt).toNat : Int) == 69)) := by
          apply Bool.eq_iff_iff.2
          simp [isFe]
          omega
        rw [hi] at HS
        rw [HS]
        cases (((s[k]'hlt).toNat : Int) == 46) <;> cases (((s[k]'hlt).toNat : Int) == 101) <;> cases (((s[k]'hlt).toNat : Int) == 69) <;> cases F1 <;> simp
      clear HS
      rcases hcase with ⟨e1, rfl⟩ | ⟨e1, e2, rfl⟩ | ⟨e1, e2, e3, rfl⟩ | ⟨e1, e2, e3, rfl⟩
      all_goals
        go_wp2_with fail
        go_round
        case rel => exact ⟨k + 1, by omega, by go_num, by rw [HX.out]⟩
        case measure => simp [intOf]; omega
    · obtain rfl : k = s.size := by omega
      rw [List.take_of_length_le (by rw [← Lib.size_eq]; exact Nat.le_refl _)]
      obtain ⟨M, hMl, hMs, hMc⟩ := trim_cases s
      have HL : Hid (Lib.trimPrefix s.data.toList [45] = M.data.toList) := hMl
      have HC : Hid (Lib.containsAny s.data.toList [46, 101, 69] = fe s.data.toList) := fe_contains _
      clear hMl hk hlt
      generalize fe s.data.toList = F at HC ⊢
      cases F
      · rcases hMc with ⟨rfl, h0⟩ | ⟨h0, rfl, e1⟩ | ⟨h0, e1, hsl⟩
        · have h0' : ¬ (0 : Int) < (s.size : Int) := by omega
          have h0d : decide ((0 : Int) < (s.size : Int)) = false := decide_eq_false h0'
          have h0e : ((s.size : Int) == 0) = true := beq_iff_eq.2 (by omega)
          go_wp2_with fail
          go_ret
          exact ⟨rfl, Below.refl _ _⟩
        · have h0' : (0 : Int) < (s.size : Int) := by omega
          have h0d : decide ((0 : Int) < (s.size : Int)) = true := decide_eq_true h0'
          by_cases hm0 : s.size = 0
          · have em : ((s.size : Int) == 0) = true := beq_iff_eq.2 (by omega)
            have HM0 : Hid (s.size = 0) := hm0
            clear hm0
            go_wp2_with fail
            go_ret
            exact ⟨rfl, Below.refl _ _⟩
          · have em : ((s.size : Int) == 0) = false := beq_eq_false_iff_ne.2 (by omega)
            have HM1 : Hid (1 ≤ s.size) := by show 1 ≤ s.size; omega
            clear hm0
            go_wp2_with fail
            go_loop [6] (fun i => ∃ k : Nat, k ≤ s.size ∧ i = .int .i64 k ∧ ∀ j, j < k → ∃ c, s.data.toList[j]? = some c ∧ Dec.dg c) (fun i => s.size - (intOf i).toNat)
            case atStart => exact ⟨0, by omega, rfl, fun j hj => by omega⟩
            case round =>
              obtain ⟨k, hk, rfl, hz⟩ := hrel
              have HZ : Hid (∀ j, j < k → ∃ c, s.data.toList[j]? = some c ∧ Dec.dg c) := hz
              clear hz
              by_cases hlt : k < s.size
              · have hlt1 : (k : Int) < (s.size : Int) := by omega
                have hdc := digit6 ((s[k]'hlt).toNat : Int) w
                cases hdg : isDg ((s[k]'hlt).toNat : Int)
                · rw [hdg] at hdc
                  clear hdg
                  go_wp2_with fail
                  refine hdc.mono ?_
                  clear hdc
                  rintro e w2 ⟨rfl, rfl⟩
                  go_wp2_with fail
                  go_ret
                  exact ⟨rfl, Below.refl _ _⟩
                · rw [hdg] at hdc
                  have HG : Hid (Dec.dg (s[k]'hlt)) := by
                    have := (isDg_iff _).1 hdg
                    exact ⟨by omega, by omega⟩
                  clear hdg
                  go_wp2_with fail
                  refine hdc.mono ?_
                  clear hdc
                  rintro e w2 ⟨rfl, rfl⟩
                  go_wp2_with fail
                  go_round
                  case rel =>
                    refine ⟨k + 1, by omega, by go_num, fun j hj => ?_⟩
                    by_cases hjk : j < k
                    · exact HZ.out j hjk
                    · obtain rfl : j = k := by omega
                      exact ⟨_, list_at s j hlt, HG.out⟩
                  case measure => simp [intOf]; omega
              · obtain rfl : k = s.size := by omega
                have hdall : ∀ c ∈ s.data.toList, Dec.dg c := by
                  intro c hc
                  obtain ⟨j, hj, rfl⟩ := List.mem_iff_getElem.1 hc
                  obtain ⟨c', hc', hd⟩ := HZ.out j (by rw [Lib.size_eq]; exact hj)
                  rw [List.getElem?_eq_getElem hj] at hc'
                  rw [Option.some.inj hc']; exact hd
                have hne : s.data.toList ≠ [] := by
                  intro e
                  have h1 := HM1.out
                  rw [Lib.size_eq, e] at h1
                  simp at h1
                have h7 := shim7 s w _ (big_digits s w hb1 HC.out _ HL.out hne hdall (by rw [← Lib.size_eq]; omega) ev HV.out HE.out)
                have h8 := fun W => above_any s W HM1.out (by omega) hdall
                generalize decide (9007199254740992 < Dec.val s.data.toList) = R at h7 h8
                clear hdall hne HZ HV HE HC HL HM1 hlt hk
                go_wp2_with fail
                refine h7.mono ?_
                clear h7
                rintro e w2 ⟨rfl, hb⟩
                go_wp2_with fail
                refine (h8 _).mono ?_
                clear h8
                rintro e w3 ⟨rfl, hb4⟩
                have HB : Hid (Below w.heap.size w w3) := hb.trans (hb4.mono hb.size)
                clear hb hb4
                go_wp2_with fail
                go_ret
                exact ⟨by cases R <;> rfl, HB.out⟩
        · have h0' : (0 : Int) < (s.size : Int) := by omega
          have h0d : decide ((0 : Int) < (s.size : Int)) = true := decide_eq_true h0'
          by_cases hm0 : M.size = 0
          · have em : ((M.size : Int) == 0) = true := beq_iff_eq.2 (by omega)
            have HM0 : Hid (M.size = 0) := hm0
            clear hm0
            go_wp2_with fail
            go_ret
            exact ⟨rfl, Below.refl _ _⟩
          · have em : ((M.size : Int) == 0) = false := beq_eq_false_iff_ne.2 (by omega)
            have HM1 : Hid (1 ≤ M.size) := by show 1 ≤ M.size; omega
            clear hm0
            go_wp2_with fail
            go_loop [6] (fun i => ∃ k : Nat, k ≤ M.size ∧ i = .int .i64 k ∧ ∀ j, j < k → ∃ c, M.data.toList[j]? = some c ∧ Dec.dg c) (fun i => M.size - (intOf i).toNat)
            case atStart => exact ⟨0, by omega, rfl, fun j hj => by omega⟩
            case round =>
              obtain ⟨k, hk, rfl, hz⟩ := hrel
              have HZ : Hid (∀ j, j < k → ∃ c, M.data.toList[j]? = some c ∧ Dec.dg c) := hz
              clear hz
              by_cases hlt : k < M.size
              · have hlt1 : (k : Int) < (M.size : Int) := by omega
                have hdc := digit6 ((M[k]'hlt).toNat : Int) w
                cases hdg : isDg ((M[k]'hlt).toNat : Int)
                · rw [hdg] at hdc
                  clear hdg
                  go_wp2_with fail
                  refine hdc.mono ?_
                  clear hdc
                  rintro e w2 ⟨rfl, rfl⟩
                  go_wp2_with fail
                  go_ret
                  exact ⟨rfl, Below.refl _ _⟩
                · rw [hdg] at hdc
                  have HG : Hid (Dec.dg (M[k]'hlt)) := by
                    have := (isDg_iff _).1 hdg
                    exact ⟨by omega, by omega⟩
                  clear hdg
                  go_wp2_with fail
                  refine hdc.mono ?_
                  clear hdc
                  rintro e w2 ⟨rfl, rfl⟩
                  go_wp2_with fail
                  go_round
                  case rel =>
                    refine ⟨k + 1, by omega, by go_num, fun j hj => ?_⟩
                    by_cases hjk : j < k
                    · exact HZ.out j hjk
                    · obtain rfl : j = k := by omega
                      exact ⟨_, list_at M j hlt, HG.out⟩
                  case measure => simp [intOf]; omega
              · obtain rfl : k = M.size := by omega
                have hdall : ∀ c ∈ M.data.toList, Dec.dg c := by
                  intro c hc
                  obtain ⟨j, hj, rfl⟩ := List.mem_iff_getElem.1 hc
                  obtain ⟨c', hc', hd⟩ := HZ.out j (by rw [Lib.size_eq]; exact hj)
                  rw [List.getElem?_eq_getElem hj] at hc'
                  rw [Option.some.inj hc']; exact hd
                have hne : M.data.toList ≠ [] := by
                  intro e
                  have h1 := HM1.out
                  rw [Lib.size_eq, e] at h1
                  simp at h1
                have h7 := shim7 s w _ (big_digits s w hb1 HC.out _ HL.out hne hdall (by rw [← Lib.size_eq]; omega) ev HV.out HE.out)
                have h8 := fun W => above_any M W HM1.out (by omega) hdall
                generalize decide (9007199254740992 < Dec.val M.data.toList) = R at h7 h8
                clear hdall hne HZ HV HE HC HL HM1 hlt hk
                go_wp2_with fail
                refine h7.mono ?_
                clear h7
                rintro e w2 ⟨rfl, hb⟩
                go_wp2_with fail
                refine (h8 _).mono ?_
                clear h8
                rintro e w3 ⟨rfl, hb4⟩
                have HB : Hid (Below w.heap.size w w3) := hb.trans (hb4.mono hb.size)
                clear hb hb4
                go_wp2_with fail
                go_ret
                exact ⟨by cases R <;> rfl, HB.out⟩
      · have h7 := shim7 s w false (big_frac s w hb1 HC.out)
        clear HC HL HV HE hMs
        rcases hMc with ⟨rfl, h0⟩ | ⟨h0, rfl, e1⟩ | ⟨h0, e1, hsl⟩
        · have h0' : ¬ (0 : Int) < (s.size : Int) := by omega
          have h0d : decide ((0 : Int) < (s.size : Int)) = false := decide_eq_false h0'
          go_wp2_with fail
          refine h7.mono ?_
          clear h7
          rintro e w2 ⟨rfl, hb⟩
          go_wp2_with fail
          go_ret
          exact ⟨rfl, hb⟩
        all_goals
          have h0' : (0 : Int) < (s.size : Int) := by omega
          have h0d : decide ((0 : Int) < (s.size : Int)) = true := decide_eq_true h0'
          go_wp2_with fail
          refine h7.mono ?_
          clear h7
          rintro e w2 ⟨rfl, hb⟩
          go_wp2_with fail
          go_ret
          exact ⟨rfl, hb⟩
end Go.Proofs.Qxb6601452aDoor
