/-
  append in the call own row, out of a new block or of a slice of its own; the bound on the lengths (11).
-/
import Derived.Test.Qxb6001751aFmtHelp
import Derived.Test.Qxb6001751aFmtBoolean
namespace Go.Proofs.Qxb6001751aFmt
open Go.RowKit

theorem zz11 (s : ByteArray) (l1 : Bool) (a : Option Addr) (n c : Nat) (l2 : Bool) (w : World) :
    Calls Tryf.prog 11 #[.string s, .bool l1, .slice a n c, .bool l2] w fun e w' => e = .returned (.bool (decide (s.size + n ≤ 1048576))) ∧ w = w' := by
  by_cases h1 : s.size ≤ 1048576
  · by_cases h2 : n ≤ 1048576
    · by_cases h3 : s.size + n ≤ 1048576
      · go_enter Tryf.func11, Tryf.ntmps11
        go_wp2
        go_ret
        exact ⟨by simp [h3], rfl⟩
      · go_enter Tryf.func11, Tryf.ntmps11
        go_wp2
        go_ret
        exact ⟨by simp; omega, rfl⟩
    · go_enter Tryf.func11, Tryf.ntmps11
      go_wp2
      go_ret
      exact ⟨by simp; omega, rfl⟩
  · go_enter Tryf.func11, Tryf.ntmps11
    go_wp2
    go_ret
    exact ⟨by simp; omega, rfl⟩

/-- append out of a block just made -/
theorem app_gen {w : World} {g cap : Nat} {xs : List Int} (h : Own w g cap xs) {k : Nat} (hk : xs.length = k) (C : Array Value) (ys : List Int) (m : Nat) (hl : ys.length = m) (hC : ∀ j, j < m → C[j]? = some (.int .u8 (bt ys j))) (hroom : k + m ≤ cap) :
    ∃ W', (∀ ty, (Builtin.append_ #[22, 22] ty #[.slice (some ⟨g, 0, none⟩) k cap, .slice (some ⟨w.heap.size, 0, none⟩) m m]).run Tryf.prog (w.alloc (.cells C 5)) = .ok (.slice (some ⟨g, 0, none⟩) (k + m) cap) W') ∧ Own W' g cap (xs ++ ys) ∧ w.grownBy W' (some g) := by
  subst hk
  obtain ⟨W', h1, h2, h3⟩ := own_app (own_alloc h (.cells C 5)) ⟨w.heap.size, 0, none⟩ m m ys hl (fun j hj => by rw [WideShapes.add_plain, Nat.zero_add, World.cell?_alloc_at _ _ _ _ rfl]; exact hC j hj) hroom
  exact ⟨W', h1, h2, grown_trans (grown_alloc w _ _) h3⟩

/-- append out of a block that lies there, or of nil -/
theorem app_mine {w : World} {g cap : Nat} {xs : List Int} (h : Own w g cap xs) {k : Nat} (hk : xs.length = k) {a : Option Addr} {m c : Nat} {ys : List Int} (hm : Mine w a m c ys) (hroom : k + m ≤ cap) :
    ∃ W', (∀ ty, (Builtin.append_ #[22, 22] ty #[.slice (some ⟨g, 0, none⟩) k cap, .slice a m c]).run Tryf.prog w = .ok (.slice (some ⟨g, 0, none⟩) (k + m) cap) W') ∧ Own W' g cap (xs ++ ys) ∧ w.grownBy W' (some g) := by
  subst hk
  obtain ⟨hl, hm⟩ := hm
  rcases hm with ⟨rfl, rfl, rfl⟩ | ⟨b, rfl, _, hc⟩
  · have hy : ys = [] := List.length_eq_zero_iff.1 hl
    subst hy
    exact ⟨w, fun ty => own_app_nil h ty, by rw [List.append_nil]; exact h, grown_refl _ _⟩
  · exact own_app h ⟨b, 0, none⟩ m c ys hl (fun j hj => by rw [WideShapes.add_plain, Nat.zero_add]; exact hc j hj) hroom

theorem mine_kept {w w' : World} {g : Nat} {a : Option Addr} {m c : Nat} {ys : List Int} (h : Mine w a m c ys) (hg : w.grownBy w' (some g)) (hge : w.heap.size ≤ g) : Mine w' a m c ys := by
  obtain ⟨hl, hm⟩ := h
  refine ⟨hl, ?_⟩
  rcases hm with hm | ⟨b, rfl, hb, hc⟩
  · exact .inl hm
  · refine .inr ⟨b, rfl, Nat.lt_of_lt_of_le hb hg.size, fun j hj => ?_⟩
    rw [World.cell?_of_block (w := w) (hg.block b hb (by intro e; injection e; omega))]
    exact hc j hj

theorem take_step (s : ByteArray) (k : Nat) (h : k < s.size) : (bs s).take k ++ [(s[k].toNat : Int)] = (bs s).take (k + 1) := by
  have hk : k < (bs s).length := by rw [bs_length]; exact h
  rw [List.take_succ_eq_append_getElem hk]
  have h2 := bs_at s k h
  unfold bt at h2
  rw [List.getElem?_eq_getElem hk] at h2
  simp at h2
  rw [h2]
end Go.Proofs.Qxb6001751aFmt
