/-
  (reader).boolean (33) and its shim ZZboolean (14), where the next token is true or false: their contracts.
-/
import Derived.Test.Qxb6001751aFmtNext
namespace Go.Proofs.Qxb6001751aFmt
open Go.RowKit

/-- behind boolean: the reader at T stands at k; the cell bD holds the bool v; nothing else below bD has turned -/
structure AdvB (T k bD : Nat) (v : Bool) (w w' : World) : Prop where
  pos : w'.cell? ⟨T, 1, none⟩ = some (.int .i64 k)
  dst : w'.cell? ⟨bD, 0, none⟩ = some (.bool v)
  other : ∀ a : Addr, a ≠ ⟨T, 1, none⟩ → a ≠ ⟨bD, 0, none⟩ → a.block < w.heap.size → w'.cell? a = w.cell? a
  size : w.heap.size ≤ w'.heap.size
  below : Below bD w w'

theorem advB_of {T k bD : Nat} {v u : Bool} {w W : World} {o : Obj} (hT : T < w.heap.size) (hb : bD < T) (h : AdvG T k (w.alloc o) W) (hd : w.cell? ⟨bD, 0, none⟩ = some (.bool u)) :
    AdvB T k bD v w (W.setCell ⟨bD, 0, none⟩ (.bool v)) := by
  have hs := h.size
  simp at hs
  have hold : W.cell? ⟨bD, 0, none⟩ = some (.bool u) := by
    rw [h.other _ (by intro e; injection e; omega) (by simp; omega), World.cell?_alloc_old _ _ _ (by show bD ≠ _; omega)]; exact hd
  refine ⟨?_, World.cell?_setCell_same _ _ _ hold, fun a h1 h2 h3 => ?_, ?_, ?_⟩
  · rw [World.cell?_setCell_other _ _ _ _ (by intro e; injection e; omega)]; exact h.pos
  · rw [World.cell?_setCell_other _ _ _ _ (fun e => h2 e.symm), h.other a h1 (by simp; omega), World.cell?_alloc_old _ _ _ (by omega)]
  · simp [World.setCell]; omega
  · exact (((Below.refl bD w).alloc (by omega) o).trans (h.below.mono (Nat.le_of_lt hb))).setCell (p := ⟨bD, 0, none⟩) (Nat.le_refl _) _

/-- the first field of a token -/
theorem field0 (c : Int) (x : Value) (W : World) : (Instr.field 67 (.agg #[.int .u8 c, x]) 0).run Tryf.prog W = .ok (.int .u8 c) W := by kernel_rfl

set_option maxRecDepth 100000 in
theorem boolean_true (T d n cap : Nat) (xs : List Int) (k p : Nat) (bD : Nat) (u : Bool) (s : ByteArray) (w : World) (h : Tok w T d n cap xs k) (hkp : k ≤ p) (hpn : p + 4 ≤ n) (hn : n ≤ 16777216) (hcap : n ≤ cap)
    (hsep : ∀ j, k ≤ j → j < p → isSep (bt xs j) = true) (hw : bt xs p = 116) (hbT : bD < T) (hd : w.cell? ⟨bD, 0, none⟩ = some (.bool u)) (hf : w.frozen? ⟨bD, 0, none⟩ = false) :
    Calls Tryf.prog 33 #[.agg #[.pointer (some ⟨T, 0, none⟩)], .string s, .pointer (some ⟨bD, 0, none⟩)] w fun e w' => e = .returned .nilIface ∧ AdvB T (p + 4) bD true w w' := by
  have hts := h.size
  have htok := fun o => tok_alloc h o
  clear h
  go_enter Tryf.func33, Tryf.ntmps33
  go_wp2_with fail
  refine (next_true T d n cap xs k p _ (htok _) hkp hpn hn hcap hsep hw).mono ?_
  rintro e w2 ⟨rfl, hadv⟩
  have HB := hadv
  have e0 : w2.cell? ⟨bD, 0, none⟩ = some (.bool u) := by rw [hadv.other _ (by intro e; injection e; omega) (by simp; omega), World.cell?_alloc_old _ _ _ (by show bD ≠ _; omega)]; exact hd
  have f0 : w2.frozen? ⟨bD, 0, none⟩ = false := by
    rw [hadv.froz _ (by simp; omega), ((Below.refl w.heap.size w).alloc (Nat.le_refl _) _).frozen (p := ⟨bD, 0, none⟩) (by show bD < _; omega)]; exact hf
  have HA : Hid (AdvB T (p + 4) bD true w (w2.setCell ⟨bD, 0, none⟩ (.bool true))) := advB_of hts hbT hadv hd
  clear hadv htok HB hsep hw
  have hfield := fun W => field0 116 (.slice (some ⟨d, p, none⟩) 4 (cap - p)) W
  go_wp2
  go_ret
  exact ⟨rfl, HA.out⟩

set_option maxRecDepth 100000 in
theorem boolean_false (T d n cap : Nat) (xs : List Int) (k p : Nat) (bD : Nat) (u : Bool) (s : ByteArray) (w : World) (h : Tok w T d n cap xs k) (hkp : k ≤ p) (hpn : p + 5 ≤ n) (hn : n ≤ 16777216) (hcap : n ≤ cap)
    (hsep : ∀ j, k ≤ j → j < p → isSep (bt xs j) = true) (hw : bt xs p = 102) (hbT : bD < T) (hd : w.cell? ⟨bD, 0, none⟩ = some (.bool u)) (hf : w.frozen? ⟨bD, 0, none⟩ = false) :
    Calls Tryf.prog 33 #[.agg #[.pointer (some ⟨T, 0, none⟩)], .string s, .pointer (some ⟨bD, 0, none⟩)] w fun e w' => e = .returned .nilIface ∧ AdvB T (p + 5) bD false w w' := by
  have hts := h.size
  have htok := fun o => tok_alloc h o
  clear h
  go_enter Tryf.func33, Tryf.ntmps33
  go_wp2_with fail
  refine (next_false T d n cap xs k p _ (htok _) hkp hpn hn hcap hsep hw).mono ?_
  rintro e w2 ⟨rfl, hadv⟩
  have HB := hadv
  have e0 : w2.cell? ⟨bD, 0, none⟩ = some (.bool u) := by rw [hadv.other _ (by intro e; injection e; omega) (by simp; omega), World.cell?_alloc_old _ _ _ (by show bD ≠ _; omega)]; exact hd
  have f0 : w2.frozen? ⟨bD, 0, none⟩ = false := by
    rw [hadv.froz _ (by simp; omega), ((Below.refl w.heap.size w).alloc (Nat.le_refl _) _).frozen (p := ⟨bD, 0, none⟩) (by show bD < _; omega)]; exact hf
  have HA : Hid (AdvB T (p + 5) bD false w (w2.setCell ⟨bD, 0, none⟩ (.bool false))) := advB_of hts hbT hadv hd
  clear hadv htok HB hsep hw
  have hfield := fun W => field0 102 (.slice (some ⟨d, p, none⟩) 5 (cap - p)) W
  go_wp2
  go_ret
  exact ⟨rfl, HA.out⟩

theorem tok_made (w : World) (d n cap : Nat) (xs : List Int) (hl : xs.length = n) (hd : d < w.heap.size) (hc : ∀ j, j < n → w.cell? ⟨d, j, none⟩ = some (.int .u8 (bt xs j))) (o : Obj) :
    Tok ((w.alloc (.cells #[.slice (some ⟨d, 0, none⟩) n cap, .int .i64 0] 61)).alloc o) w.heap.size d n cap xs 0 := by
  refine tok_alloc ⟨hl, hd, by simp, by simp, by simp, by simp, fun j hj => ?_⟩ o
  rw [World.cell?_alloc_old _ _ _ (by show d ≠ _; omega)]
  exact hc j hj

set_option maxRecDepth 100000 in
theorem zboolean_true (d n cap : Nat) (xs : List Int) (p : Nat) (bD : Nat) (u : Bool) (s : ByteArray) (w : World) (hl : xs.length = n) (hd : d < w.heap.size) (hc : ∀ j, j < n → w.cell? ⟨d, j, none⟩ = some (.int .u8 (bt xs j)))
    (hpn : p + 4 ≤ n) (hn : n ≤ 16777216) (hcap : n ≤ cap)
    (hsep : ∀ j, j < p → isSep (bt xs j) = true) (hw : bt xs p = 116) (hbD : bD < w.heap.size) (hdst : w.cell? ⟨bD, 0, none⟩ = some (.bool u)) (hf : w.frozen? ⟨bD, 0, none⟩ = false) :
    Calls Tryf.prog 14 #[.slice (some ⟨d, 0, none⟩) n cap, .int .i64 0, .string s, .pointer (some ⟨bD, 0, none⟩)] w fun e w' =>
      e = .returned (.tuple #[.int .i64 ((p : Int) + 4), .nilIface]) ∧ w'.cell? ⟨bD, 0, none⟩ = some (.bool true) ∧ Below bD w w' := by
  have htok := tok_made w d n cap xs hl hd hc (.cells #[.pointer (some ⟨w.heap.size, 0, none⟩)] 63)
  clear hc
  go_enter Tryf.func14, Tryf.ntmps14
  go_wp2_with fail
  refine (boolean_true w.heap.size d n cap xs 0 p bD u s _ htok (Nat.zero_le _) hpn hn hcap (fun j _ hj => hsep j hj) hw hbD ?_ ?_).mono ?_
  · rw [World.cell?_alloc_old _ _ _ (by show bD ≠ _; simp; omega), World.cell?_alloc_old _ _ _ (by show bD ≠ _; omega)]; exact hdst
  · rw [(((Below.refl w.heap.size w).alloc (Nat.le_refl _) _).alloc (by simp) _).frozen (p := ⟨bD, 0, none⟩) hbD]; exact hf
  rintro e w2 ⟨rfl, hadv⟩
  have c1 : w2.cell? ⟨w.heap.size + 1, 0, none⟩ = some (.pointer (some ⟨w.heap.size, 0, none⟩)) := by
    rw [hadv.other _ (by intro e; injection e; omega) (by intro e; injection e; omega) (by simp)]
    exact World.cell?_alloc_at _ _ _ _ (by simp)
  have c2 : w2.cell? ⟨w.heap.size, 1, none⟩ = some (.int .i64 ((p : Int) + 4)) := hadv.pos
  have HD : Hid (w2.cell? ⟨bD, 0, none⟩ = some (.bool true)) := hadv.dst
  have HB : Hid (Below bD w w2) := ((((Below.refl bD w).alloc (by omega) _).alloc (by simp; omega) _).trans hadv.below)
  clear hadv htok hsep hw
  go_wp2
  go_ret2
  exact ⟨rfl, HD.out, HB.out⟩

set_option maxRecDepth 100000 in
theorem zboolean_false (d n cap : Nat) (xs : List Int) (p : Nat) (bD : Nat) (u : Bool) (s : ByteArray) (w : World) (hl : xs.length = n) (hd : d < w.heap.size) (hc : ∀ j, j < n → w.cell? ⟨d, j, none⟩ = some (.int .u8 (bt xs j)))
    (hpn : p + 5 ≤ n) (hn : n ≤ 16777216) (hcap : n ≤ cap)
    (hsep : ∀ j, j < p → isSep (bt xs j) = true) (hw : bt xs p = 102) (hbD : bD < w.heap.size) (hdst : w.cell? ⟨bD, 0, none⟩ = some (.bool u)) (hf : w.frozen? ⟨bD, 0, none⟩ = false) :
    Calls Tryf.prog 14 #[.slice (some ⟨d, 0, none⟩) n cap, .int .i64 0, .string s, .pointer (some ⟨bD, 0, none⟩)] w fun e w' =>
      e = .returned (.tuple #[.int .i64 ((p : Int) + 5), .nilIface]) ∧ w'.cell? ⟨bD, 0, none⟩ = some (.bool false) ∧ Below bD w w' := by
  have htok := tok_made w d n cap xs hl hd hc (.cells #[.pointer (some ⟨w.heap.size, 0, none⟩)] 63)
  clear hc
  go_enter Tryf.func14, Tryf.ntmps14
  go_wp2_with fail
  refine (boolean_false w.heap.size d n cap xs 0 p bD u s _ htok (Nat.zero_le _) hpn hn hcap (fun j _ hj => hsep j hj) hw hbD ?_ ?_).mono ?_
  · rw [World.cell?_alloc_old _ _ _ (by show bD ≠ _; simp; omega), World.cell?_alloc_old _ _ _ (by show bD ≠ _; omega)]; exact hdst
  · rw [(((Below.refl w.heap.size w).alloc (Nat.le_refl _) _).alloc (by simp) _).frozen (p := ⟨bD, 0, none⟩) hbD]; exact hf
  rintro e w2 ⟨rfl, hadv⟩
  have c1 : w2.cell? ⟨w.heap.size + 1, 0, none⟩ = some (.pointer (some ⟨w.heap.size, 0, none⟩)) := by
    rw [hadv.other _ (by intro e; injection e; omega) (by intro e; injection e; omega) (by simp)]
    exact World.cell?_alloc_at _ _ _ _ (by simp)
  have c2 : w2.cell? ⟨w.heap.size, 1, none⟩ = some (.int .i64 ((p : Int) + 5)) := hadv.pos
  have HD : Hid (w2.cell? ⟨bD, 0, none⟩ = some (.bool false)) := hadv.dst
  have HB : Hid (Below bD w w2) := ((((Below.refl bD w).alloc (by omega) _).alloc (by simp; omega) _).trans hadv.below)
  clear hadv htok hsep hw
  go_wp2
  go_ret2
  exact ⟨rfl, HD.out, HB.out⟩
end Go.Proofs.Qxb6001751aFmt
