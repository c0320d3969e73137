/-
  bytes.IndexByte at a slice of bytes: its contract over this program, by the shelf's law on the model's entry (Derived/Lib/BytesEntry.lean).
-/
import Derived.Test.Qxb6003775aProg
import Derived.Test.Qxb6003775aPlain
import Derived.WalkKit
import Derived.Below
import Derived.Lib.BytesEntry
import Derived.Laws.Externs
namespace Go.Proofs.Qxb6003775a
open Go.RowKit

/-- the slice of bytes (a, n, c) holds the bytes xs, and is of moderate size -/
structure BL (w : World) (a : Option Addr) (n c : Nat) (xs : List Int) : Prop where
  len : xs.length = n
  le : n ≤ c
  cap : c ≤ 1048576
  byte : ∀ x ∈ xs, 0 ≤ x ∧ x < 256
  mem : (a = none ∧ n = 0 ∧ c = 0) ∨ ∃ b o, a = some ⟨b, o, none⟩ ∧ ∀ j, j < n → w.cell? ⟨b, o + j, none⟩ = some (.int .u8 (xs.getD j 0))

theorem isIdx_lib (c : Int) (hc : 0 ≤ c ∧ c < 256) : ∀ xs : List Int, (∀ x ∈ xs, 0 ≤ x ∧ x < 256) → Pl.IsIdx xs c (Lib.indexByte (Lib.bytesOf xs) c.toNat.toUInt8)
  | [], _ => .inl ⟨rfl, fun j hj => by simp at hj⟩
  | x :: l, h => by
    have hx := h x (by simp)
    have ih := isIdx_lib c hc l (fun y hy => h y (by simp [hy]))
    have e0 : Pl.b (x :: l) 0 = x := rfl
    have e1 : ∀ j, Pl.b (x :: l) (j + 1) = Pl.b l j := fun j => rfl
    have hb : (x.toNat.toUInt8 == c.toNat.toUInt8) = decide (x = c) := by
      rw [Bool.eq_iff_iff, beq_iff_eq, decide_eq_true_iff]
      constructor
      · intro h
        have := congrArg UInt8.toNat h
        simp only [Nat.toUInt8, UInt8.toNat_ofNat'] at this
        omega
      · intro h; rw [h]
    have hE : Lib.indexByte (Lib.bytesOf (x :: l)) c.toNat.toUInt8 = if x.toNat.toUInt8 == c.toNat.toUInt8 then 0 else if Lib.indexByte (Lib.bytesOf l) c.toNat.toUInt8 == -1 then -1 else Lib.indexByte (Lib.bytesOf l) c.toNat.toUInt8 + 1 := rfl
    rw [hE, hb]
    by_cases hxc : x = c
    · simp only [hxc, decide_true, if_true]
      exact .inr ⟨0, by simp, rfl, by rw [← hxc]; rfl, fun i hi => by omega⟩
    · simp only [hxc, decide_false]
      rcases ih with ⟨hr, hn⟩ | ⟨j, hj, hr, hbj, hlt⟩
      · rw [hr]
        refine .inl ⟨rfl, fun j hj => ?_⟩
        cases j with
        | zero => rw [e0]; exact hxc
        | succ j => rw [e1]; exact hn j (by simpa using hj)
      · rw [hr]
        have hne : ((j : Int) == -1) = false := by rw [beq_eq_false_iff_ne]; omega
        rw [hne]
        refine .inr ⟨j + 1, by simpa using hj, by simp, by rw [e1]; exact hbj, fun i hi => ?_⟩
        cases i with
        | zero => rw [e0]; exact hxc
        | succ i => rw [e1]; exact hlt i (by omega)

set_option maxHeartbeats 400000 in
theorem idx_lib (a : Option Addr) (n c : Nat) (xs : List Int) (w : World) (h : BL w a n c xs) (cv : Int) :
    Calls Try.prog 22 #[.slice a n c, .int .u8 cv] w fun e w' => e = .returned (.int .i64 (Lib.indexByte (Lib.bytesOf xs) cv.toNat.toUInt8)) ∧ w = w' := by
  obtain ⟨hl, hle, hcap, hby, hm⟩ := h
  rcases hm with ⟨rfl, rfl, rfl⟩ | ⟨b, o, rfl, hc⟩
  · have hx : xs = [] := List.length_eq_zero_iff.1 hl
    subst hx
    go_enter Try.func22, Try.ntmps22
    go_wp2
    rw [run_callFunc_extern Try.func23 (by kernel_rfl) (by kernel_rfl) (by kernel_rfl) (e := Extern.BytealgIndexByte.indexByte) (by kernel_rfl), Lib.run_indexByteNil w 0 0 cv]
    simp only [Result.andThen]
    rw [Oper.upon_value]
    go_wp2
    go_ret
    exact ⟨rfl, rfl⟩
  · go_enter Try.func22, Try.ntmps22
    go_wp2
    rw [run_callFunc_extern Try.func23 (by kernel_rfl) (by kernel_rfl) (by kernel_rfl) (e := Extern.BytealgIndexByte.indexByte) (by kernel_rfl), Lib.run_indexByteSlice w b o n c xs hl hc cv]
    simp only [Result.andThen]
    rw [Oper.upon_value]
    go_wp2
    go_ret
    exact ⟨rfl, rfl⟩

/-- bytes.IndexByte: the first place, or -1; nothing turns. -/
theorem idx_any (a : Option Addr) (n c : Nat) (xs : List Int) (w : World) (h : BL w a n c xs) (cv : Int) (hcv : 0 ≤ cv ∧ cv < 256) :
    Calls Try.prog 22 #[.slice a n c, .int .u8 cv] w fun e w' => ∃ r, e = .returned (.int .i64 r) ∧ Pl.IsIdx xs cv r ∧ w = w' :=
  (idx_lib a n c xs w h cv).mono fun _ _ ⟨he, hw⟩ => ⟨_, he, isIdx_lib cv hcv xs h.byte, hw⟩

end Go.Proofs.Qxb6003775a
