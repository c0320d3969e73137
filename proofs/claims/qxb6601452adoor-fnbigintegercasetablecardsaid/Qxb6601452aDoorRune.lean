/-
  strings.IndexRune (function 18) in ".eE" at a rune beyond ASCII: -1.
-/
import Derived.Test.Qxb6601452aDoorShelf
import Derived.WalkKit
import Derived.Below
import Derived.Laws.RangeAny
import Derived.Laws.Runes
import Derived.Lib.OthersKept
import Derived.Deep.QuietTactic
import Derived.BigQuiet
import Derived.Deep.LoopGhost
import Derived.WalkMore
namespace Go.Proofs.Qxb6601452aDoor
open Go.RowKit

theorem below_drawn {B : Nat} {a w : World} (h : Below B a w) (q : Nat) : Below B a (w.drewN q) := by
  induction q with
  | zero => exact h
  | succ q ih => exact ih.drew

/-- '.eE' -/
def eE : ByteArray := ⟨#[46, 101, 69]⟩

set_option maxHeartbeats 2000000 in
set_option maxRecDepth 100000 in
theorem rune_bad (r : Int) (w : World) (h128 : 128 ≤ r) (hne : (r == 65533) = false) (hv : Lib.validRune r = false) :
    Calls Tryd.prog 18 #[.string ⟨#[46, 101, 69]⟩, .int .i32 r] w fun e w' => e = .returned (.int .i64 (-1)) ∧ Below w.heap.size w w' := by
  have hd : decide (r < 128) = false := by simp; omega
  have h0 : (0 : Int) ≤ r := by omega
  go_enter Tryd.func18, Tryd.ntmps18
  go_wp2_with fail
  refine (Tryd.utf8_ValidRune _ _).mono ?_
  rintro e w' ⟨rfl, rfl⟩
  go_wp2
  go_ret
  exact ⟨rfl, Below.refl _ _⟩

set_option maxHeartbeats 2000000 in
set_option maxRecDepth 100000 in
theorem rune_err (w : World) :
    Calls Tryd.prog 18 #[.string ⟨#[46, 101, 69]⟩, .int .i32 65533] w fun e w' => e = .returned (.int .i64 (-1)) ∧ Below w.heap.size w w' := by
  go_enter Tryd.func18, Tryd.ntmps18
  go_wp2
  go_loopg [5, 6] 3 (fun g _ _ wx => ∃ i : Nat, i + g = 3 ∧ wx = w.iter ⟨#[46, 101, 69]⟩ i)
  case atStart => exact ⟨0, rfl, rfl⟩
  case round =>
    obtain ⟨i, hig, rfl⟩ := hrel
    have h4 : i = 0 ∨ i = 1 ∨ i = 2 ∨ i = 3 := by omega
    rcases h4 with rfl | rfl | rfl | rfl
    · have hnx := fun ty => run_next_ascii (P := Tryd.prog) w ⟨#[46, 101, 69]⟩ 0 ty (by decide) (by decide)
      go_wp2
      go_roundg 2
      case measure => omega
      case rel => exact ⟨1, rfl, rfl⟩
    · have hnx := fun ty => run_next_ascii (P := Tryd.prog) w ⟨#[46, 101, 69]⟩ 1 ty (by decide) (by decide)
      go_wp2
      go_roundg 1
      case measure => omega
      case rel => exact ⟨2, rfl, rfl⟩
    · have hnx := fun ty => run_next_ascii (P := Tryd.prog) w ⟨#[46, 101, 69]⟩ 2 ty (by decide) (by decide)
      go_wp2
      go_roundg 0
      case measure => omega
      case rel => exact ⟨3, rfl, rfl⟩
    · have hnx := fun ty => run_next_end (P := Tryd.prog) w ⟨#[46, 101, 69]⟩ 3 ty (by decide)
      go_wp2
      go_ret
      exact ⟨rfl, (Below.refl _ _).alloc (Nat.le_refl _) _⟩

theorem index_high (b : UInt8) (hb : 128 ≤ b.toNat) : Lib.indexByte [69] b = -1 := by
  have : ((69 : UInt8) == b) = false := beq_eq_false_iff_ne.2 (by intro e; rw [← e] at hb; simp at hb)
  unfold Lib.indexByte
  rw [this]
  rfl

theorem encode_shape (r : Int) (hv : Lib.validRune r = true) (h128 : 128 ≤ r) :
    (∃ a b, Utf8.encode r = ⟨#[a, b]⟩ ∧ 128 ≤ b.toNat) ∨ (∃ a b c, Utf8.encode r = ⟨#[a, b, c]⟩ ∧ 128 ≤ c.toNat) ∨ (∃ a b c d, Utf8.encode r = ⟨#[a, b, c, d]⟩ ∧ 128 ≤ d.toNat) := by
  have hv' : Utf8.valid r = true := by
    unfold Lib.validRune at hv
    have := of_decide_eq_true hv
    unfold Utf8.valid
    rcases this with ⟨h1, h2⟩ | ⟨h1, h2⟩
    · simp; omega
    · simp; omega
  have hc : ¬ r.toNat < 128 := by omega
  unfold Utf8.encode
  simp only [hv', if_true, hc, if_false]
  split
  · exact .inl ⟨_, _, rfl, by simp; omega⟩
  · split
    · exact .inr (.inl ⟨_, _, _, rfl, by simp; omega⟩)
    · exact .inr (.inr ⟨_, _, _, _, rfl, by simp; omega⟩)

set_option maxHeartbeats 2000000 in
set_option maxRecDepth 100000 in
theorem rune_valid (r : Int) (w : World) (h128 : 128 ≤ r) (hne : (r == 65533) = false) (hv : Lib.validRune r = true) :
    Calls Tryd.prog 18 #[.string ⟨#[46, 101, 69]⟩, .int .i32 r] w fun e w' => e = .returned (.int .i64 (-1)) ∧ Below w.heap.size w w' := by
  have hd : decide (r < 128) = false := by simp; omega
  have h0 : (0 : Int) ≤ r := by omega
  have hcv0 : ∀ W : World, (convert 21 9 (.int .i32 r)).run Tryd.prog W = .ok (.string (Utf8.encode r)) W := fun W => run_convert_int_string W 21 9 .i32 r (by rw [Tryd.underlying21]; rfl) Tryd.underlying9
  rcases encode_shape r hv h128 with ⟨a, b, hE, hb⟩ | ⟨a, b, c, hE, hb⟩ | ⟨a, b, c, d, hE, hb⟩
  · rw [hE] at hcv0
    have hn2 : ((((⟨#[46, 101, 69]⟩ : ByteArray)[1]'(by decide)).toNat : Int) != (((⟨#[a, b]⟩ : ByteArray)[1]'(by show 1 < 2; omega)).toNat : Int)) = true := by
      show ((101 : Int) != (b.toNat : Int)) = true
      exact bne_iff_ne.2 (by omega)
    have hwr : IntKind.i64.wrap 2 = 2 := by decide
    have hib : Lib.indexByte [69] ((⟨#[a, b]⟩ : ByteArray)[1]'(by show 1 < 2; omega)) = -1 := index_high b hb
    have hs2 : ∀ W : World, (Instr.slice 9 (.string ⟨#[46, 101, 69]⟩) (some (.int .i64 2)) none none).run Tryd.prog W = .ok (.string ⟨#[69]⟩) W := fun W => by kernel_rfl
    go_enter Tryd.func18, Tryd.ntmps18
    go_wp2_with fail
    refine (Tryd.utf8_ValidRune _ _).mono ?_
    rintro e w' ⟨rfl, rfl⟩
    go_wp2_with fail
    go_step3
    go_wp2
    refine wp_loop_rounds 1 ?_
    rw [rounds_succ]
    go_wp2
    go_step3
    go_wp2
    go_quiet (fail)
    go_wp2
    have HB : Hid (Below w'.heap.size w' (w'.drewN nq)) := below_drawn (Below.refl _ _) _
    generalize w'.drewN nq = W1 at HB ⊢
    go_quiet ((go_at_call 29; exact Calls.quiet_of_same (Tryd.strings_IndexByte _ _ _)))
    go_wp2
    rw [Exit.noGoto_ret]
    go_wp2
    rw [Exit.noGoto_ret]
    go_wp2
    go_ret
    exact ⟨rfl, below_drawn HB.out _⟩
  · rw [hE] at hcv0
    have hn2 : ((((⟨#[46, 101, 69]⟩ : ByteArray)[2]'(by decide)).toNat : Int) != (((⟨#[a, b, c]⟩ : ByteArray)[2]'(by show 2 < 3; omega)).toNat : Int)) = true := by
      show ((69 : Int) != (c.toNat : Int)) = true
      exact bne_iff_ne.2 (by omega)
    have hwr : IntKind.i64.wrap 3 = 3 := by decide
    have hib : Lib.indexByte [] ((⟨#[a, b, c]⟩ : ByteArray)[2]'(by show 2 < 3; omega)) = -1 := rfl
    have hs2 : ∀ W : World, (Instr.slice 9 (.string ⟨#[46, 101, 69]⟩) (some (.int .i64 3)) none none).run Tryd.prog W = .ok (.string ⟨#[]⟩) W := fun W => by kernel_rfl
    go_enter Tryd.func18, Tryd.ntmps18
    go_wp2_with fail
    refine (Tryd.utf8_ValidRune _ _).mono ?_
    rintro e w' ⟨rfl, rfl⟩
    go_wp2_with fail
    go_step3
    go_wp2
    refine wp_loop_rounds 1 ?_
    rw [rounds_succ]
    go_wp2
    go_step3
    go_wp2
    go_quiet (fail)
    go_wp2
    have HB : Hid (Below w'.heap.size w' (w'.drewN nq)) := below_drawn (Below.refl _ _) _
    generalize w'.drewN nq = W1 at HB ⊢
    go_quiet ((go_at_call 29; exact Calls.quiet_of_same (Tryd.strings_IndexByte _ _ _)))
    go_wp2
    rw [Exit.noGoto_ret]
    go_wp2
    rw [Exit.noGoto_ret]
    go_wp2
    go_ret
    exact ⟨rfl, below_drawn HB.out _⟩
  · rw [hE] at hcv0
    go_enter Tryd.func18, Tryd.ntmps18
    go_wp2_with fail
    refine (Tryd.utf8_ValidRune _ _).mono ?_
    rintro e w' ⟨rfl, rfl⟩
    go_wp2_with fail
    go_step3
    go_wp2
    refine wp_loop_rounds 1 ?_
    rw [rounds_succ]
    go_wp2
    rw [Exit.noGoto_ret]
    go_wp2
    go_ret
    exact ⟨rfl, Below.refl _ _⟩

/-- IndexRune(".eE", r), r beyond ASCII: -1. -/
theorem rune_high (r : Int) (w : World) (h128 : 128 ≤ r) :
    Calls Tryd.prog 18 #[.string ⟨#[46, 101, 69]⟩, .int .i32 r] w fun e w' => e = .returned (.int .i64 (-1)) ∧ Below w.heap.size w w' := by
  by_cases he : r = 65533
  · subst he; exact rune_err w
  · have hne : (r == 65533) = false := beq_eq_false_iff_ne.2 he
    cases hv : Lib.validRune r with
    | false => exact rune_bad r w h128 hne hv
    | true => exact rune_valid r w h128 hne hv
end Go.Proofs.Qxb6601452aDoor
