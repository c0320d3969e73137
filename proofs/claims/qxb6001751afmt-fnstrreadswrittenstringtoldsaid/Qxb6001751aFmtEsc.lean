/-
  How the law writes a string: plain mathematics.
-/
import Derived.Test.Qxb6001751aFmtOwn
namespace Go.Proofs.Qxb6001751aFmt

/-- a quote or a backslash -/
def special (c : Int) : Bool := c == 34 || c == 92
/-- what is written for one byte -/
def esc1 (c : Int) : List Int := if special c = true then [92, c] else [c]
/-- what is written for bytes -/
def esc : List Int → List Int
  | [] => []
  | c :: l => esc1 c ++ esc l
/-- the written string -/
def quoted (cs : List Int) : List Int := 34 :: (esc cs ++ [34])

theorem esc_append (a b : List Int) : esc (a ++ b) = esc a ++ esc b := by
  induction a with
  | nil => rfl
  | cons c l ih => simp [esc, ih]
theorem esc_snoc (a : List Int) (c : Int) : esc (a ++ [c]) = esc a ++ esc1 c := by rw [esc_append]; simp [esc]
theorem esc1_length (c : Int) : (esc1 c).length = if special c = true then 2 else 1 := by unfold esc1; split <;> rfl
theorem esc_length_le (cs : List Int) : (esc cs).length ≤ 2 * cs.length := by
  induction cs with
  | nil => exact Nat.le_refl _
  | cons c l ih =>
    have := esc1_length c
    simp only [esc, List.length_append, List.length_cons]
    split at this <;> omega

/-- the place at which byte i's writing begins -/
def escAt (cs : List Int) (i : Nat) : Nat := (esc (cs.take i)).length
theorem escAt_zero (cs : List Int) : escAt cs 0 = 0 := rfl
theorem escAt_end (cs : List Int) : escAt cs cs.length = (esc cs).length := by unfold escAt; rw [List.take_length]
theorem escAt_succ {cs : List Int} {i : Nat} (h : i < cs.length) : escAt cs (i + 1) = escAt cs i + if special (bt cs i) = true then 2 else 1 := by
  unfold escAt
  rw [List.take_succ_eq_append_getElem h, esc_snoc, List.length_append, esc1_length]
  have : bt cs i = cs[i] := by unfold bt; rw [List.getElem?_eq_getElem h]; rfl
  rw [this]
theorem escAt_le {cs : List Int} (i : Nat) : escAt cs i ≤ (esc cs).length := by
  unfold escAt
  have := esc_append (cs.take i) (cs.drop i)
  rw [List.take_append_drop] at this
  rw [this, List.length_append]; omega

theorem quoted_length (cs : List Int) : (quoted cs).length = (esc cs).length + 2 := by simp [quoted]
theorem quoted_zero (cs : List Int) : bt (quoted cs) 0 = 34 := rfl
theorem quoted_end (cs : List Int) : bt (quoted cs) (1 + escAt cs cs.length) = 34 := by
  rw [escAt_end]
  unfold quoted
  rw [show (34 :: (esc cs ++ [34])) = ([34] ++ esc cs) ++ [34] by simp]
  have := bt_app_right ([34] ++ esc cs) [34] 0
  rw [show (([34] : List Int) ++ esc cs).length + 0 = 1 + (esc cs).length by simp; omega] at this
  rw [this]; rfl
theorem quoted_at {cs : List Int} {i : Nat} (h : i < cs.length) : bt (quoted cs) (1 + escAt cs i) = if special (bt cs i) = true then 92 else bt cs i := by
  have e0 : esc cs = esc (cs.take i) ++ esc (cs.drop i) := by rw [← esc_append, List.take_append_drop]
  have e1 : cs.drop i = cs[i] :: cs.drop (i + 1) := List.drop_eq_getElem_cons h
  have e2 : bt cs i = cs[i] := by unfold bt; rw [List.getElem?_eq_getElem h]; rfl
  unfold quoted
  rw [show (34 :: (esc cs ++ [34])) = ([34] ++ esc (cs.take i)) ++ (esc (cs.drop i) ++ [34]) by rw [e0]; simp]
  have := bt_app_right ([34] ++ esc (cs.take i)) (esc (cs.drop i) ++ [34]) 0
  rw [show (([34] : List Int) ++ esc (cs.take i)).length + 0 = 1 + escAt cs i by unfold escAt; simp; omega] at this
  rw [this, e1, e2]
  unfold esc esc1
  by_cases hs : special cs[i] = true
  · simp [hs, bt]
  · simp [hs, bt]
theorem special_false {c : Int} (h : special c = false) : (c == 34) = false ∧ (c == 92) = false := by
  simp only [special, Bool.or_eq_false_iff] at h; exact h
theorem special_true {c : Int} (h : special c = true) : c = 34 ∨ c = 92 := by
  simp only [special, Bool.or_eq_true, beq_iff_eq] at h; exact h
end Go.Proofs.Qxb6001751aFmt
