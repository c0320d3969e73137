/-
  The law package's own helpers: the bound on the length (functions 7, 12, 14, 16) and cloneBytes (8): their contracts.
-/
import Derived.Test.Qxb6003775aIdx
import Derived.Deep.OwnRows
import Derived.Laws.IdiomCopy
import Derived.Lib.SliceRun
namespace Go.Proofs.Qxb6003775a
open Go.RowKit

/-- a slice of bytes that came in -/
structure Came (w : World) (a : Option Addr) (n : Nat) (xs : List Int) : Prop where
  len : xs.length = n
  byte : ∀ x ∈ xs, 0 ≤ x ∧ x < 256
  mem : (a = none ∧ n = 0) ∨ ∃ p, a = some p ∧ ∀ j, j < n → w.cell? (p.add j) = some (.int .u8 (xs.getD j 0))

theorem zz7 (a : Option Addr) (n c : Nat) (l : Bool) (w : World) :
    Calls Try.prog 7 #[.slice a n c, .bool l] w fun e w' => e = .returned (.bool (decide (n ≤ 1048576))) ∧ w = w' := by
  by_cases h : n ≤ 1048576
  · go_enter Try.func7, Try.ntmps7
    go_wp2
    go_ret
    exact ⟨by simp [h], rfl⟩
  · go_enter Try.func7, Try.ntmps7
    go_wp2
    go_ret
    exact ⟨by simp; omega, rfl⟩
theorem zz12 (a : Option Addr) (n c : Nat) (l : Bool) (w : World) :
    Calls Try.prog 12 #[.slice a n c, .bool l] w fun e w' => e = .returned (.bool (decide (n ≤ 1048576))) ∧ w = w' := by
  by_cases h : n ≤ 1048576
  · go_enter Try.func12, Try.ntmps12
    go_wp2
    go_ret
    exact ⟨by simp [h], rfl⟩
  · go_enter Try.func12, Try.ntmps12
    go_wp2
    go_ret
    exact ⟨by simp; omega, rfl⟩
theorem zz14 (a : Option Addr) (n c : Nat) (w : World) :
    Calls Try.prog 14 #[.slice a n c] w fun e w' => e = .returned (.bool (decide (n ≤ 1048576))) ∧ w = w' := by
  by_cases h : n ≤ 1048576
  · go_enter Try.func14, Try.ntmps14
    go_wp2
    go_ret
    exact ⟨by simp [h], rfl⟩
  · go_enter Try.func14, Try.ntmps14
    go_wp2
    go_ret
    exact ⟨by simp; omega, rfl⟩
theorem zz16 (a : Option Addr) (n c : Nat) (l : Bool) (w : World) :
    Calls Try.prog 16 #[.slice a n c, .bool l] w fun e w' => e = .returned (.bool (decide (n ≤ 1048576))) ∧ w = w' := by
  by_cases h : n ≤ 1048576
  · go_enter Try.func16, Try.ntmps16
    go_wp2
    go_ret
    exact ⟨by simp [h], rfl⟩
  · go_enter Try.func16, Try.ntmps16
    go_wp2
    go_ret
    exact ⟨by simp; omega, rfl⟩

theorem below_cells {B : Nat} (g : Nat) (hg : B ≤ g) : ∀ (vs : List Value) (o : Nat) (a w : World), Below B a w → Below B a (w.setCells g o vs)
  | [], _, _, _, h => h
  | v :: vs, o, a, _, h => below_cells g hg vs (o + 1) a _ (h.setCell (p := ⟨g, o, none⟩) hg v)

/-- what 'make' lays, under a name -/
theorem made (n : Nat) (h : n ≤ 1048576) (w : World) : ∃ W1 : World,
    (Instr.makeSlice 22 (.int .i64 (n : Int)) (.int .i64 (n : Int))).run Try.prog w = .ok (.slice (some ⟨w.heap.size, 0, none⟩) n n) W1 ∧
    W1.rowIs w.heap.size 5 n (fun _ => .int .u8 0) ∧ Below w.heap.size w W1 :=
  ⟨_, run_make_row' 22 5 (.int .u8 0) 1 Try.underlying22 (by kernel_rfl) rfl .i64 .i64 n (by omega) (by omega) w, World.rowIs_made _ _ _ _, (Below.refl _ _).alloc (Nat.le_refl _) _⟩

/-- what 'copy' leaves, under a name -/
theorem copied (w W1 : World) (p : Addr) (n c : Nat) (xs : List Int) (hl : xs.length = n) (hc : ∀ j, j < n → w.cell? (p.add j) = some (.int .u8 (xs.getD j 0)))
    (hr : W1.rowIs w.heap.size 5 n (fun _ => .int .u8 0)) (hb : Below w.heap.size w W1) : ∃ W2 : World,
    (∀ ty, (Builtin.copy_ #[22, 22] ty #[.slice (some ⟨w.heap.size, 0, none⟩) n n, .slice (some p) n c]).run Try.prog W1 = .ok (goInt n) W2) ∧
    (∀ j, j < n → W2.cell? ⟨w.heap.size, 0 + j, none⟩ = some (.int .u8 (xs.getD j 0))) ∧ Below w.heap.size w W2 := by
  have hlen : (xs.map (Value.int .u8)).length = n := by simpa using hl
  have hsome : ∀ j, j < (xs.map (Value.int .u8)).length → (W1.cell? ⟨w.heap.size, 0 + j, none⟩).isSome = true := fun j hj => by
    rw [Nat.zero_add, hr.cell (by omega)]; rfl
  have hcell : ∀ j v, (xs.map (Value.int .u8))[j]? = some v → W1.cell? (p.add j) = some v := fun j v hj => by
    have hj' : j < n := by have := (List.getElem?_eq_some_iff.1 hj).1; omega
    have h1 := hc j hj'
    have hlt : (p.add j).block < w.heap.size := by
      apply Classical.byContradiction
      intro hn
      have : w.cell? (p.add j) = none := by
        unfold World.cell?
        simp [Array.getElem?_eq_none (by omega : w.heap.size ≤ (p.add j).block)]
      rw [this] at h1; cases h1
    rw [hb.cell hlt, h1]
    rw [List.getElem?_map] at hj
    rw [List.getD_eq_getElem?_getD]
    cases hx : xs[j]? with
    | none => rw [hx] at hj; cases hj
    | some y => rw [hx] at hj; simpa using hj
  refine ⟨W1.setCells w.heap.size 0 (xs.map (Value.int .u8)), fun ty => ?_, fun j hj => ?_, ?_⟩
  · have := run_copy_cells (P := Try.prog) W1 22 22 ty 5 w.heap.size 0 n n p n c (xs.map (Value.int .u8)) Try.underlying22 (by kernel_rfl) (by rw [hlen]; exact (Nat.min_self n).symm) hcell hsome
      (fun j hj => hr.frozen _) (fun v hv => by obtain ⟨x, _, rfl⟩ := List.mem_map.1 hv; rfl)
    rw [hlen] at this
    exact this
  · have := World.cell?_setCells_in w.heap.size (xs.map (Value.int .u8)) 0 W1 hsome j (by omega)
    rw [this, List.getElem_map, List.getD_eq_getElem?_getD, List.getElem?_eq_getElem (by omega)]
    rfl
  · exact below_cells _ (Nat.le_refl _) _ _ _ _ hb

set_option maxHeartbeats 400000 in
/-- cloneBytes: the same bytes, in memory of its own (nil: nil); nothing that was there turns. -/
theorem clone_any (a : Option Addr) (n c : Nat) (xs : List Int) (w : World) (h : Came w a n xs) (hn : n ≤ 1048576) :
    Calls Try.prog 8 #[.slice a n c] w fun e w' => ∃ a' c', e = .returned (.slice a' n c') ∧ BL w' a' n c' xs ∧ Below w.heap.size w w' := by
  obtain ⟨hl, hby, hm⟩ := h
  have heq : ∀ (w : World) (a : Option Addr) (n c n' c' : Nat), (binOp .eql 22 (.slice a n c) (.slice none n' c')).run Try.prog w = .ok (.bool a.isNone) w :=
    fun w a n c n' c' => Lib.run_eql_slice_nil w _ _ a n c n' c' Try.underlying22
  rcases hm with ⟨rfl, rfl⟩ | ⟨p, rfl, hc⟩
  · go_enter Try.func8, Try.ntmps8
    go_wp2
    go_ret
    exact ⟨none, 0, rfl, ⟨hl, Nat.le_refl _, by omega, hby, .inl ⟨rfl, rfl, rfl⟩⟩, Below.refl _ _⟩
  · obtain ⟨W1, hmk, hr, hb⟩ := made n hn w
    obtain ⟨W2, hcp, hcell, hb2⟩ := copied w W1 p n c xs hl hc hr hb
    have HC : Hid (∀ j, j < n → W2.cell? ⟨w.heap.size, 0 + j, none⟩ = some (.int .u8 (xs.getD j 0))) := hcell
    clear hcell hr hc
    go_enter Try.func8, Try.ntmps8
    go_wp2
    go_ret
    exact ⟨_, _, rfl, ⟨hl, Nat.le_refl _, hn, hby, .inr ⟨_, 0, rfl, HC.out⟩⟩, hb2⟩

end Go.Proofs.Qxb6003775a
