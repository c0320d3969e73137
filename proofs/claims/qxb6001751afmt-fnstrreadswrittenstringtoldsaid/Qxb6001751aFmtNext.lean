/-
  (*tokens).next (function 37) where the next token is true or false: its contract.
-/
import Derived.Test.Qxb6001751aFmtSkip
import Derived.RegionTactic
import Derived.BigRegion
namespace Go.Proofs.Qxb6001751aFmt
open Go.RowKit

/-- the reader at block T now stands at k; new blocks may have been made; nothing else that was there has turned -/
structure AdvG (T k : Nat) (w w' : World) : Prop where
  pos : w'.cell? ⟨T, 1, none⟩ = some (.int .i64 k)
  other : ∀ a : Addr, a ≠ ⟨T, 1, none⟩ → a.block < w.heap.size → w'.cell? a = w.cell? a
  froz : ∀ a : Addr, a.block < w.heap.size → w'.frozen? a = w.frozen? a
  size : w.heap.size ≤ w'.heap.size
  below : Below T w w'

theorem tok_alloc {w : World} {T d n cap : Nat} {xs : List Int} {k : Nat} (h : Tok w T d n cap xs k) (o : Obj) : Tok (w.alloc o) T d n cap xs k := by
  have hs := h.size
  have hl := h.lt
  have e : ∀ a : Addr, a.block < w.heap.size → (w.alloc o).cell? a = w.cell? a := fun a ha => World.cell?_alloc_old _ _ _ (by omega)
  refine ⟨h.len, h.lt, by simp; omega, by rw [e _ hs]; exact h.data, by rw [e _ hs]; exact h.pos, ?_, fun j hj => by rw [e _ (by show d < _; omega)]; exact h.cells j hj⟩
  have := ((Below.refl w.heap.size w).alloc (Nat.le_refl _) o).frozen (p := ⟨T, 1, none⟩) hs
  rw [this]; exact h.free

/-- 's[l:h]' of the text, not empty -/
theorem slice_text (d n cap l m : Nat) (h0 : 0 < m) (hc : l + m ≤ cap) (W : World) : (Instr.slice 22 (.slice (some ⟨d, 0, none⟩) n cap) (some (.int .i64 (l : Int))) (some (.int .i64 ((l : Int) + (m : Int)))) none).run Tryf.prog W = .ok (.slice (some ⟨d, l, none⟩) m (cap - l)) W := by
  have hz : ∀ w, (sizeOf (Tryf.prog.elem 22)).run Tryf.prog w = .ok 1 w := fun w => by kernel_rfl
  rw [run_slice_lh W 22 _ n cap (by kernel_rfl) .i64 .i64 l (l + m) (by omega) (by omega) (by omega), hz]
  simp only [Result.andThen, sliced, Int.toNat_natCast]
  rw [show ((l : Int) + (m : Int)).toNat = l + m by omega, if_neg (by omega)]
  simp [Addr.add]
  omega

/-- the result's own cells, behind skip -/
theorem own_result {w w2 : World} {T p : Nat} (hts : T < w.heap.size) (hadv : Adv T p (w.alloc (.cells #[.int .u8 0, .slice none 0 0] 67)) w2) :
    w2.cell? ⟨w.heap.size, 0, none⟩ = some (.int .u8 0) ∧ w2.cell? ⟨w.heap.size, 1, none⟩ = some (.slice none 0 0) ∧ w2.frozen? ⟨w.heap.size, 0, none⟩ = false ∧ w2.frozen? ⟨w.heap.size, 1, none⟩ = false := by
  refine ⟨?_, ?_, ?_, ?_⟩
  · rw [hadv.other _ (by intro e; injection e; omega)]; simp
  · rw [hadv.other _ (by intro e; injection e; omega)]; simp
  · rw [hadv.froz]; simp
  · rw [hadv.froz]; simp

theorem advG_of {w W3 : World} {T k : Nat} {o : Obj} (hts : T < w.heap.size) (h : Adv T k (w.alloc o) W3) (v0 v1 : Value) :
    AdvG T k w ((W3.setCell ⟨w.heap.size, 0, none⟩ v0).setCell ⟨w.heap.size, 1, none⟩ v1).drew := by
  have e : ∀ a : Addr, a.block < w.heap.size → (((W3.setCell ⟨w.heap.size, 0, none⟩ v0).setCell ⟨w.heap.size, 1, none⟩ v1).drew).cell? a = W3.cell? a := fun a ha => by
    have h1 : (((W3.setCell ⟨w.heap.size, 0, none⟩ v0).setCell ⟨w.heap.size, 1, none⟩ v1).drew).cell? a = ((W3.setCell ⟨w.heap.size, 0, none⟩ v0).setCell ⟨w.heap.size, 1, none⟩ v1).cell? a := rfl
    rw [h1, World.cell?_setCell_other _ _ _ _ (by intro e; rw [← e] at ha; exact Nat.lt_irrefl _ ha), World.cell?_setCell_other _ _ _ _ (by intro e; rw [← e] at ha; exact Nat.lt_irrefl _ ha)]
  refine ⟨by rw [e _ hts]; exact h.pos, fun a ha hb => ?_, fun a hb => ?_, ?_, ?_⟩
  · rw [e a hb, h.other a ha, World.cell?_alloc_old _ _ _ (by omega)]
  · have h1 : (((W3.setCell ⟨w.heap.size, 0, none⟩ v0).setCell ⟨w.heap.size, 1, none⟩ v1).drew).frozen? a = ((W3.setCell ⟨w.heap.size, 0, none⟩ v0).setCell ⟨w.heap.size, 1, none⟩ v1).frozen? a := rfl
    rw [h1, World.frozen?_setCell, World.frozen?_setCell, h.froz]
    exact ((Below.refl w.heap.size w).alloc (Nat.le_refl _) o).frozen hb
  · have := h.size
    simp at this
    show w.heap.size ≤ ((W3.setCell ⟨w.heap.size, 0, none⟩ v0).setCell ⟨w.heap.size, 1, none⟩ v1).heap.size
    simp [World.setCell]; omega
  · exact ((((Below.refl T w).alloc (by omega) o).trans h.below).setCell (p := ⟨w.heap.size, 0, none⟩) (Nat.le_of_lt hts) v0).setCell (p := ⟨w.heap.size, 1, none⟩) (Nat.le_of_lt hts) v1 |>.drew

set_option maxHeartbeats 2000000 in
set_option maxRecDepth 100000 in
theorem next_true (T d n cap : Nat) (xs : List Int) (k p : Nat) (w : World) (h : Tok w T d n cap xs k) (hkp : k ≤ p) (hpn : p + 4 ≤ n) (hn : n ≤ 16777216) (hcap : n ≤ cap)
    (hsep : ∀ j, k ≤ j → j < p → isSep (bt xs j) = true) (hw : bt xs p = 116) :
    Calls Tryf.prog 37 #[.pointer (some ⟨T, 0, none⟩)] w fun e w' => e = .returned (.agg #[.int .u8 116, .slice (some ⟨d, p, none⟩) 4 (cap - p)]) ∧ AdvG T (p + 4) w w' := by
  have hsl := slice_text d n cap p 4 (by omega) (by omega)
  have hts := h.size
  go_enter Tryf.func37, Tryf.ntmps37
  go_wp2_with fail
  refine (skip_any T d n cap xs k p _ (tok_alloc h _) hkp (by omega) hn hsep (fun _ => by rw [hw]; rfl)).mono ?_
  rintro e w2 ⟨rfl, hadv⟩
  have htok := adv_tok (tok_alloc h _) hadv
  have HA : Hid (Adv T p (w.alloc (.cells #[.int .u8 0, .slice none 0 0] 67)) w2) := hadv
  obtain ⟨r0, r1, f0, f1⟩ := own_result hts hadv
  obtain ⟨_, hlt, _, cd, cp, cf, cc⟩ := htok
  have ccell := cc p (by omega)
  rw [hw] at ccell
  clear cc hadv hw hsep
  have hpn' : (p : Int) < (n : Int) := by omega
  have hne : ((p : Int) == (n : Int)) = false := beq_eq_false_iff_ne.2 (by omega)
  go_wp2
  go_quiet (fail)
  go_wp2
  generalize hW : (w2.drewN nq).setCell ⟨T, 1, none⟩ (.int .i64 ((p : Int) + 4)) = W3
  have hadv : Adv T (p + 4) (w.alloc (.cells #[.int .u8 0, .slice none 0 0] 67)) W3 := by rw [← hW]; exact adv_store (adv_drewN HA.out _) (p + 4)
  clear hW HA r0 r1 f0 f1 cd cp cf ccell
  obtain ⟨r0, r1, f0, f1⟩ := own_result hts hadv
  obtain ⟨_, _, _, cd, cp, cf, cc⟩ := adv_tok (tok_alloc h _) hadv
  have HA : Hid (Adv T (p + 4) (w.alloc (.cells #[.int .u8 0, .slice none 0 0] 67)) W3) := hadv
  clear cc hadv h cf
  go_region
  go_wp2
  exact bodyPost_ret (v := .agg #[.int .u8 116, .slice (some ⟨d, p, none⟩) 4 (cap - p)]) (by simp [results, Tryf.results37, go_sem, r0, r1]) rfl ⟨rfl, advG_of hts HA.out _ _⟩

set_option maxHeartbeats 2000000 in
set_option maxRecDepth 100000 in
theorem next_false (T d n cap : Nat) (xs : List Int) (k p : Nat) (w : World) (h : Tok w T d n cap xs k) (hkp : k ≤ p) (hpn : p + 5 ≤ n) (hn : n ≤ 16777216) (hcap : n ≤ cap)
    (hsep : ∀ j, k ≤ j → j < p → isSep (bt xs j) = true) (hw : bt xs p = 102) :
    Calls Tryf.prog 37 #[.pointer (some ⟨T, 0, none⟩)] w fun e w' => e = .returned (.agg #[.int .u8 102, .slice (some ⟨d, p, none⟩) 5 (cap - p)]) ∧ AdvG T (p + 5) w w' := by
  have hsl := slice_text d n cap p 5 (by omega) (by omega)
  have hts := h.size
  go_enter Tryf.func37, Tryf.ntmps37
  go_wp2_with fail
  refine (skip_any T d n cap xs k p _ (tok_alloc h _) hkp (by omega) hn hsep (fun _ => by rw [hw]; rfl)).mono ?_
  rintro e w2 ⟨rfl, hadv⟩
  have htok := adv_tok (tok_alloc h _) hadv
  have HA : Hid (Adv T p (w.alloc (.cells #[.int .u8 0, .slice none 0 0] 67)) w2) := hadv
  obtain ⟨r0, r1, f0, f1⟩ := own_result hts hadv
  obtain ⟨_, hlt, _, cd, cp, cf, cc⟩ := htok
  have ccell := cc p (by omega)
  rw [hw] at ccell
  clear cc hadv hw hsep
  have hpn' : (p : Int) < (n : Int) := by omega
  have hne : ((p : Int) == (n : Int)) = false := beq_eq_false_iff_ne.2 (by omega)
  go_wp2
  go_quiet (fail)
  go_wp2
  generalize hW : (w2.drewN nq).setCell ⟨T, 1, none⟩ (.int .i64 ((p : Int) + 5)) = W3
  have hadv : Adv T (p + 5) (w.alloc (.cells #[.int .u8 0, .slice none 0 0] 67)) W3 := by rw [← hW]; exact adv_store (adv_drewN HA.out _) (p + 5)
  clear hW HA r0 r1 f0 f1 cd cp cf ccell
  obtain ⟨r0, r1, f0, f1⟩ := own_result hts hadv
  obtain ⟨_, _, _, cd, cp, cf, cc⟩ := adv_tok (tok_alloc h _) hadv
  have HA : Hid (Adv T (p + 5) (w.alloc (.cells #[.int .u8 0, .slice none 0 0] 67)) W3) := hadv
  clear cc hadv h cf
  go_region
  go_wp2
  exact bodyPost_ret (v := .agg #[.int .u8 102, .slice (some ⟨d, p, none⟩) 5 (cap - p)]) (by simp [results, Tryf.results37, go_sem, r0, r1]) rfl ⟨rfl, advG_of hts HA.out _ _⟩
end Go.Proofs.Qxb6001751aFmt
