/-
  Decimal texts: plain mathematics. The number that digits write; what ParseUint makes of them; two texts of one length compared.
-/
import Derived.Lib.ParseIntB
namespace Go.Proofs.Qxb6601452aDoor.Dec

/-- a digit's number -/
def dv (c : UInt8) : Nat := c.toNat - 48
/-- a decimal digit -/
def dg (c : UInt8) : Prop := 48 ≤ c.toNat ∧ c.toNat ≤ 57
/-- the number that digits write, behind what stands already -/
def vf (acc : Nat) : List UInt8 → Nat
  | [] => acc
  | c :: l => vf (acc * 10 + dv c) l
def val (l : List UInt8) : Nat := vf 0 l

theorem vf_eq : ∀ (l : List UInt8) (acc : Nat), vf acc l = acc * 10 ^ l.length + val l
  | [], acc => by
    have e1 : vf acc [] = acc := rfl
    have e2 : val [] = 0 := rfl
    rw [e1, e2, List.length_nil, Nat.pow_zero, Nat.mul_one, Nat.add_zero]
  | c :: l, acc => by
    have h1 := vf_eq l (acc * 10 + dv c)
    have h2 := vf_eq l (0 * 10 + dv c)
    have e1 : vf acc (c :: l) = vf (acc * 10 + dv c) l := rfl
    have e2 : val (c :: l) = vf (0 * 10 + dv c) l := rfl
    rw [e1, e2, h1, h2, List.length_cons, Nat.pow_succ]
    generalize 10 ^ l.length = P
    have e3 : acc * 10 * P = acc * (P * 10) := by rw [Nat.mul_assoc, Nat.mul_comm 10 P]
    rw [Nat.add_mul, e3, Nat.zero_mul, Nat.zero_add]
    omega
theorem val_cons (c : UInt8) (l : List UInt8) : val (c :: l) = dv c * 10 ^ l.length + val l := by
  show vf (0 * 10 + dv c) l = _
  rw [vf_eq]; simp
theorem dv_lt {c : UInt8} (h : dg c) : dv c < 10 := by unfold dv; have := h.2; omega
theorem val_lt : ∀ l : List UInt8, (∀ c ∈ l, dg c) → val l < 10 ^ l.length
  | [], _ => by
    have e2 : val [] = 0 := rfl
    rw [e2, List.length_nil, Nat.pow_zero]; exact Nat.one_pos
  | c :: l, h => by
    have ih := val_lt l (fun x hx => h x (by simp [hx]))
    have hc := dv_lt (h c (by simp))
    rw [val_cons, List.length_cons, Nat.pow_succ]
    have : dv c * 10 ^ l.length ≤ 9 * 10 ^ l.length := Nat.mul_le_mul_right _ (by omega)
    omega
theorem val_ge {c : UInt8} {l : List UInt8} (h : dg c) (h0 : c.toNat ≠ 48) : 10 ^ l.length ≤ val (c :: l) := by
  rw [val_cons]
  have : 1 * 10 ^ l.length ≤ dv c * 10 ^ l.length := Nat.mul_le_mul_right _ (by unfold dv; have := h.1; omega)
  omega
theorem val_zero {c : UInt8} {l : List UInt8} (h0 : c.toNat = 48) : val (c :: l) = val l := by
  rw [val_cons]; unfold dv; rw [h0]; simp

/-- leading zeros write nothing -/
theorem val_drop : ∀ (i : Nat) (l : List UInt8), (∀ j, j < i → ∃ c, l[j]? = some c ∧ c.toNat = 48) → val (l.drop i) = val l
  | 0, _, _ => rfl
  | i + 1, [], _ => by simp
  | i + 1, c :: l, h => by
    obtain ⟨c', hc, h48⟩ := h 0 (by omega)
    simp at hc
    subst hc
    rw [val_zero h48]
    exact val_drop i l (fun j hj => by
      obtain ⟨x, hx, h4⟩ := h (j + 1) (by omega)
      exact ⟨x, by simpa using hx, h4⟩)

/-- ParseUint(.., 10, 64) of digits -/
theorem parse_digits : ∀ (l : List UInt8) (acc : Nat), (∀ c ∈ l, dg c) → acc ≤ 18446744073709551615 →
    (vf acc l ≤ 18446744073709551615 → Lib.parseUintM 18446744073709551615 acc l = .ok (vf acc l)) ∧ (18446744073709551615 < vf acc l → Lib.parseUintM 18446744073709551615 acc l = .range)
  | [], acc, _, ha => ⟨fun _ => rfl, fun h => by have : vf acc [] = acc := rfl; omega⟩
  | c :: l, acc, hd, ha => by
    have hc := hd c (by simp)
    have hmono : acc * 10 + dv c ≤ vf (acc * 10 + dv c) l := by
      rw [vf_eq]
      have : (acc * 10 + dv c) * 1 ≤ (acc * 10 + dv c) * 10 ^ l.length := Nat.mul_le_mul_left _ (Nat.one_le_pow _ _ (by omega))
      omega
    have e : vf acc (c :: l) = vf (acc * 10 + dv c) l := rfl
    have hdv : c.toNat - 48 = dv c := rfl
    unfold Lib.parseUintM
    rw [if_pos (show 48 ≤ c.toNat ∧ c.toNat ≤ 57 from hc), e, hdv]
    by_cases h1 : 1844674407370955162 ≤ acc
    · rw [if_pos h1]
      exact ⟨fun h => by omega, fun _ => rfl⟩
    · rw [if_neg h1]
      by_cases h2 : 18446744073709551615 < acc * 10 + dv c
      · rw [if_pos h2]
        exact ⟨fun h => by omega, fun _ => rfl⟩
      · rw [if_neg h2]
        exact parse_digits l (acc * 10 + dv c) (fun x hx => hd x (by simp [hx])) (by omega)

theorem parse_ok {l : List UInt8} (hne : l ≠ []) (hd : ∀ c ∈ l, dg c) (h : val l ≤ 18446744073709551615) : Lib.parseUintB 64 l = .ok (val l) := by
  unfold Lib.parseUintB
  rw [if_neg hne]
  exact (parse_digits l 0 hd (by omega)).1 h
theorem parse_range {l : List UInt8} (hne : l ≠ []) (hd : ∀ c ∈ l, dg c) (h : 18446744073709551615 < val l) : Lib.parseUintB 64 l = .range := by
  unfold Lib.parseUintB
  rw [if_neg hne]
  exact (parse_digits l 0 hd (by omega)).2 h

/-- two texts of one length, at the first place where they part -/
theorem cmp_at : ∀ (j : Nat) (a b : List UInt8), a.length = b.length → (∀ c ∈ a, dg c) → (∀ c ∈ b, dg c) → (∀ i, i < j → a[i]? = b[i]?) → ∀ x y, a[j]? = some x → b[j]? = some y → x.toNat ≠ y.toNat → (y.toNat < x.toNat ↔ val b < val a)
  | 0, [], _, _, _, _, _, x, y, hx, _, _ => by simp at hx
  | 0, _ :: _, [], _, _, _, _, x, y, _, hy, _ => by simp at hy
  | 0, c :: a, d :: b, hl, ha, hb, _, x, y, hx, hy, hne => by
    simp at hx hy
    subst hx; subst hy
    have hla := val_lt a (fun t ht => ha t (by simp [ht]))
    have hlb := val_lt b (fun t ht => hb t (by simp [ht]))
    have hl' : a.length = b.length := by simpa using hl
    have hc := ha c (by simp)
    have hd := hb d (by simp)
    rw [val_cons, val_cons, hl']
    rw [hl'] at hla
    have h1 := hc.1; have h2 := hd.1
    constructor
    · intro h
      have : (dv d + 1) * 10 ^ b.length ≤ dv c * 10 ^ b.length := Nat.mul_le_mul_right _ (by unfold dv; omega)
      rw [Nat.add_mul] at this
      omega
    · intro h
      apply Classical.byContradiction
      intro hn
      have : (dv c + 1) * 10 ^ b.length ≤ dv d * 10 ^ b.length := Nat.mul_le_mul_right _ (by unfold dv; omega)
      rw [Nat.add_mul] at this
      omega
  | j + 1, [], _, _, _, _, _, x, y, hx, _, _ => by simp at hx
  | j + 1, _ :: _, [], _, _, _, _, x, y, _, hy, _ => by simp at hy
  | j + 1, c :: a, d :: b, hl, ha, hb, heq, x, y, hx, hy, hne => by
    have h0 := heq 0 (by omega)
    simp at h0
    subst h0
    have hl' : a.length = b.length := by simpa using hl
    have ih := cmp_at j a b hl' (fun t ht => ha t (by simp [ht])) (fun t ht => hb t (by simp [ht])) (fun i hi => by simpa using heq (i + 1) (by omega)) x y (by simpa using hx) (by simpa using hy) hne
    rw [val_cons, val_cons, hl']
    omega

/-- 2^53 in decimal -/
def T : List UInt8 := [57, 48, 48, 55, 49, 57, 57, 50, 53, 52, 55, 52, 48, 57, 57, 50]
theorem T_val : val T = 9007199254740992 := by decide
theorem T_dg : ∀ c ∈ T, dg c := by unfold T dg; decide

/-- a text of another length -/
theorem long_above {l : List UInt8} (hd : ∀ c ∈ l, dg c) (h0 : ∀ c, l[0]? = some c → c.toNat ≠ 48) (hl : 16 < l.length) : 9007199254740992 < val l := by
  match l, hl with
  | c :: l, hl =>
    have := val_ge (l := l) (hd c (by simp)) (h0 c rfl)
    have hp : 10 ^ 16 ≤ 10 ^ l.length := Nat.pow_le_pow_right (by omega) (by simp at hl; omega)
    omega
theorem short_below {l : List UInt8} (hd : ∀ c ∈ l, dg c) (hl : l.length < 16) : ¬ 9007199254740992 < val l := by
  have := val_lt l hd
  have hp : 10 ^ l.length ≤ 10 ^ 15 := Nat.pow_le_pow_right (by omega) (by omega)
  omega
end Go.Proofs.Qxb6601452aDoor.Dec
