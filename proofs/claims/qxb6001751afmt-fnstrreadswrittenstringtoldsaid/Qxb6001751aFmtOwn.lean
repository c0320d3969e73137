/-
  Memory of the call's own: a row of bytes that is appended to and has room; the pair (data, at) of the token reader. Seat b6001751aF.
-/
import Derived.Test.Qxb6001751aFmtProg
import Derived.WalkKit
import Derived.Below
import Derived.Deep.OwnRows
import Derived.Laws.OwnMore
import Derived.Lib.SliceRun
import Derived.Deep.QuietTactic
import Derived.BigQuiet
import Derived.Deep.LoopGhost
namespace Go.Proofs.Qxb6001751aFmt
open Go.RowKit

/-- the byte at place j (0 behind the end) -/
def bt (xs : List Int) (j : Nat) : Int := xs[j]?.getD 0
theorem bt_app_left {xs ys : List Int} {j : Nat} (h : j < xs.length) : bt (xs ++ ys) j = bt xs j := by unfold bt; rw [List.getElem?_append_left h]
theorem bt_app_right (xs ys : List Int) (j : Nat) : bt (xs ++ ys) (xs.length + j) = bt ys j := by unfold bt; rw [List.getElem?_append_right (by omega)]; simp

/-- the bytes xs lie at the head of block g, which has room for cap -/
def Own (w : World) (g cap : Nat) (xs : List Int) : Prop := w.ownsRow 0 5 1 (.slice (some ⟨g, 0, none⟩) xs.length cap) xs.length (xs.map (Value.int .u8))

theorem info5 : ∃ i, Tryf.prog.info? 5 = some i ∧ i.zero = some (.int .u8 0) ∧ i.size = 1 ∧ i.bytes = 1 := by
  have h : (Tryf.prog.info? 5).map (fun i => (i.zero, i.size, i.bytes)) = some (some (.int .u8 0), 1, 1) := by kernel_rfl
  obtain ⟨i, hi, he⟩ := Option.map_eq_some_iff.1 h
  simp only [Prod.mk.injEq] at he
  exact ⟨i, hi, he.1, he.2.1, he.2.2⟩

theorem own_lt {w : World} {g cap : Nat} {xs : List Int} (h : Own w g cap xs) : g < w.heap.size := (World.ownsRow.lt h g rfl).2
theorem own_kept {w w' : World} {g cap : Nat} {xs : List Int} {row : Option Nat} (h : Own w g cap xs) (hg : w.grownBy w' row) (hne : row ≠ some g) : Own w' g cap xs :=
  World.ownsRow.kept h hg (.inr (fun e => hne e.symm))
theorem own_alloc {w : World} {g cap : Nat} {xs : List Int} (h : Own w g cap xs) (o : Obj) : Own (w.alloc o) g cap xs := World.ownsRow.alloc h o
theorem own_cell {w : World} {g cap : Nat} {xs : List Int} (h : Own w g cap xs) (j : Nat) (hj : j < xs.length) : w.cell? ⟨g, j, none⟩ = some (.int .u8 (bt xs j)) := by
  rw [World.ownsRow.cellAt h j (by omega), List.getElem?_map]
  unfold bt
  rw [List.getElem?_eq_getElem hj]; rfl
theorem own_cap {w : World} {g cap : Nat} {xs : List Int} (h : Own w g cap xs) : xs.length ≤ cap := by
  rcases h.2 with ⟨h', _⟩ | ⟨g', cap', cur, h', _, _, hnc, _⟩
  · simp at h'
  · simp only [Value.slice.injEq, Option.some.injEq, Addr.mk.injEq, and_true, true_and] at h'
    omega

theorem own_make (w : World) (c : Nat) (hc : c ≤ 16777216) : ∃ W', (Instr.makeSlice 22 (.int .i64 0) (.int .i64 (c : Int))).run Tryf.prog w = .ok (.slice (some ⟨w.heap.size, 0, none⟩) 0 c) W' ∧ Own W' w.heap.size c [] ∧ w.grownBy W' none := by
  obtain ⟨i, hi, hz, hs, hb⟩ := info5
  exact run_make_own (P := Tryf.prog) w 0 22 5 i (.int .u8 0) 1 Tryf.underlying22 hi hz hs .i64 .i64 c (by rw [hb]; omega) (by unfold maxLen; omega) (Nat.zero_le _)

theorem own_app {w : World} {g cap : Nat} {xs : List Int} (h : Own w g cap xs) (a : Addr) (m c : Nat) (ys : List Int) (hl : ys.length = m) (hy : ∀ j, j < m → w.cell? (a.add j) = some (.int .u8 (bt ys j))) (hroom : xs.length + m ≤ cap) :
    ∃ W', (∀ ty, (Builtin.append_ #[22, 22] ty #[.slice (some ⟨g, 0, none⟩) xs.length cap, .slice (some a) m c]).run Tryf.prog w = .ok (.slice (some ⟨g, 0, none⟩) (xs.length + m) cap) W') ∧ Own W' g cap (xs ++ ys) ∧ w.grownBy W' (some g) := by
  obtain ⟨i, hi, hz, hs, hb⟩ := info5
  have key := fun ty => run_append_fits (P := Tryf.prog) w 0 22 ty 5 i 1 Tryf.underlying22 hi hs g xs.length cap _ h a m c (ys.map (Value.int .u8)) (by simp [hl])
    (fun j u hj => by
      have hj' : j < m := by have := (List.getElem?_eq_some_iff.1 hj).1; simp at this; omega
      rw [hy j hj']
      rw [List.getElem?_map] at hj
      unfold bt
      cases hx : ys[j]? with
      | none => rw [hx] at hj; cases hj
      | some y => rw [hx] at hj; simpa using hj)
    (fun u hu => by obtain ⟨x, _, rfl⟩ := List.mem_map.1 hu; rfl) hroom
  obtain ⟨W', h1, h2, h3⟩ := key 0
  refine ⟨W', fun ty => ?_, ?_, h3⟩
  · have e : Builtin.append_ #[22, 22] ty #[.slice (some ⟨g, 0, none⟩) xs.length cap, .slice (some a) m c] = Builtin.append_ #[22, 22] 0 #[.slice (some ⟨g, 0, none⟩) xs.length cap, .slice (some a) m c] := rfl
    rw [e]; exact h1
  · unfold Own
    rw [List.length_append, List.map_append, hl]
    exact h2

theorem own_app_nil {w : World} {g cap : Nat} {xs : List Int} (h : Own w g cap xs) (ty : TypeId) : (Builtin.append_ #[22, 22] ty #[.slice (some ⟨g, 0, none⟩) xs.length cap, .slice none 0 0]).run Tryf.prog w = .ok (.slice (some ⟨g, 0, none⟩) xs.length cap) w := by
  obtain ⟨i, hi, _⟩ := info5
  exact run_append_owned_none (P := Tryf.prog) w 0 22 ty 5 i 1 Tryf.underlying22 hi _ _ _ h

theorem grown_refl (w : World) (row : Option Nat) : w.grownBy w row := ⟨rfl, rfl, rfl, Nat.le_refl _, fun _ _ _ => rfl⟩
theorem grown_trans {a b c : World} {row : Option Nat} (h : a.grownBy b row) (k : b.grownBy c row) : a.grownBy c row :=
  ⟨k.os.trans h.os, k.tape.trans h.tape, k.output.trans h.output, Nat.le_trans h.size k.size, fun i hi hr => (k.block i (Nat.lt_of_lt_of_le hi h.size) hr).trans (h.block i hi hr)⟩
theorem grown_weak {a b : World} (h : a.grownBy b none) (row : Option Nat) : a.grownBy b row := ⟨h.os, h.tape, h.output, h.size, fun i hi _ => h.block i hi (by simp)⟩
theorem grown_alloc (w : World) (o : Obj) (row : Option Nat) : w.grownBy (w.alloc o) row := World.grownBy_alloc w o row

/-- the operation 'append' for the walk, where its run is known by an equation -/
theorem wp_app {P : Program} (w : World) {o : Oper} {a : Act} {K : Act → World → Prop} {Q : Exit → Act → World → Prop} (s x : Operand) (t : TypeId)
    (ho : o.op = .call { callee := .builtin .append, args := #[s, x], argTypes := #[t, t] }) (v u : Value) (hs : a.eval s = v) (hx : a.eval x = u) {v' : Value} {w' : World}
    (hr : ∀ ty, (Builtin.append_ #[t, t] ty #[v, u]).run P w = .ok v' w') (h : K (a.put o.dst v') w') : o.wp P a w K Q := by
  unfold Oper.wp execOp
  simp only [ho, resolve, invoke, builtin, Sem.run_bind, Sem.run_pure, Result.andThen_ok, List.map_toArray, List.map_cons, List.map_nil, hs, hx, hr]
  exact h
theorem wpList_app {P : Program} (w : World) {ops : Array Oper} {rest : List Oper} {o : Oper} {a : Act} {Q : Exit → Act → World → Prop} (hgd : o.guard = none) (s x : Operand) (t : TypeId)
    (ho : o.op = .call { callee := .builtin .append, args := #[s, x], argTypes := #[t, t] }) (v u : Value) (hs : a.eval s = v) (hx : a.eval x = u) {v' : Value} {w' : World}
    (hr : ∀ ty, (Builtin.append_ #[t, t] ty #[v, u]).run P w = .ok v' w') (h : wpList P ops Q rest (a.put o.dst v') w') : wpList P ops Q (o :: rest) a w :=
  wpList_plain hgd fun _ hK => wp_app w s x t ho v u hs hx hr (hK _ _ h)

/-! ### the token reader's pair -/
/-- the reader at block T: its text is the n bytes xs at the head of block d, it stands at k -/
structure Tok (w : World) (T d n cap : Nat) (xs : List Int) (k : Nat) : Prop where
  len : xs.length = n
  lt : d < T
  size : T < w.heap.size
  data : w.cell? ⟨T, 0, none⟩ = some (.slice (some ⟨d, 0, none⟩) n cap)
  pos : w.cell? ⟨T, 1, none⟩ = some (.int .i64 k)
  free : w.frozen? ⟨T, 1, none⟩ = false
  cells : ∀ j, j < n → w.cell? ⟨d, j, none⟩ = some (.int .u8 (bt xs j))

/-- the reader at block T now stands at k; nothing else has turned -/
structure Adv (T k : Nat) (w w' : World) : Prop where
  pos : w'.cell? ⟨T, 1, none⟩ = some (.int .i64 k)
  other : ∀ a : Addr, a ≠ ⟨T, 1, none⟩ → w'.cell? a = w.cell? a
  froz : ∀ a : Addr, w'.frozen? a = w.frozen? a
  size : w'.heap.size = w.heap.size
  below : Below T w w'

theorem adv_refl {T k : Nat} {w : World} (h : w.cell? ⟨T, 1, none⟩ = some (.int .i64 k)) : Adv T k w w := ⟨h, fun _ _ => rfl, fun _ => rfl, rfl, Below.refl _ _⟩
theorem adv_tok {w w' : World} {T d n cap : Nat} {xs : List Int} {k k' : Nat} (h : Tok w T d n cap xs k) (ha : Adv T k' w w') : Tok w' T d n cap xs k' :=
  ⟨h.len, h.lt, by rw [ha.size]; exact h.size, by rw [ha.other _ (by simp)]; exact h.data, ha.pos, by rw [ha.froz]; exact h.free,
   fun j hj => by rw [ha.other _ (by have := h.lt; intro e; injection e; omega)]; exact h.cells j hj⟩
theorem adv_drewN {w w' : World} {T k : Nat} (h : Adv T k w w') (q : Nat) : Adv T k w (w'.drewN q) := by
  induction q with
  | zero => exact h
  | succ q ih => exact ⟨ih.pos, ih.other, ih.froz, ih.size, ih.below.drew⟩
theorem adv_store {w w' : World} {T k : Nat} (h : Adv T k w w') (k' : Nat) : Adv T k' w (w'.setCell ⟨T, 1, none⟩ (.int .i64 k')) := by
  refine ⟨?_, fun a ha => ?_, fun a => ?_, ?_, h.below.setCell (Nat.le_refl _) _⟩
  · exact World.cell?_setCell_same _ _ _ h.pos
  · rw [← h.other a ha]
    exact World.cell?_setCell_other _ _ _ _ (fun e => ha e.symm)
  · rw [← h.froz a]
    exact World.frozen?_setCell _ _ _ _
  · rw [← h.size]; simp [World.setCell]
end Go.Proofs.Qxb6001751aFmt
