/-
  (reader).str (35), its shim ZZstr (19), zzEqual (20): their contracts.
-/
import Derived.Test.Qxb6001751aFmtNextStr
namespace Go.Proofs.Qxb6001751aFmt
open Go.RowKit

theorem below_drawn {B : Nat} {a w : World} (h : Below B a w) (q : Nat) : Below B a (w.drewN q) := by
  induction q with
  | zero => exact h
  | succ q ih => exact ih.drew

theorem advG_str {w w2 : World} {T k : Nat} {o1 o2 : Obj} (hts : T < w.heap.size) (h : AdvG T k ((w.alloc o1).alloc o2) w2) (v0 v1 : Value) (o3 : Obj) :
    AdvG T k w (((w2.setCell ⟨w.heap.size + 1, 0, none⟩ v0).setCell ⟨w.heap.size + 1, 1, none⟩ v1).alloc o3) := by
  have hs := h.size
  simp at hs
  have hsz : ((w2.setCell ⟨w.heap.size + 1, 0, none⟩ v0).setCell ⟨w.heap.size + 1, 1, none⟩ v1).heap.size = w2.heap.size := by simp [World.setCell]
  have e : ∀ a : Addr, a.block < w.heap.size → (((w2.setCell ⟨w.heap.size + 1, 0, none⟩ v0).setCell ⟨w.heap.size + 1, 1, none⟩ v1).alloc o3).cell? a = w2.cell? a := fun a ha => by
    rw [World.cell?_alloc_old _ _ _ (by rw [hsz]; omega), World.cell?_setCell_other _ _ _ _ (by intro e; rw [← e] at ha; simp at ha; omega), World.cell?_setCell_other _ _ _ _ (by intro e; rw [← e] at ha; simp at ha; omega)]
  have ew : ∀ a : Addr, a.block < w.heap.size → ((w.alloc o1).alloc o2).cell? a = w.cell? a := fun a ha => by
    rw [World.cell?_alloc_old _ _ _ (by simp; omega), World.cell?_alloc_old _ _ _ (by omega)]
  refine ⟨by rw [e _ hts]; exact h.pos, fun a ha hb => ?_, fun a hb => ?_, ?_, ?_⟩
  · rw [e a hb, h.other a ha (by simp; omega), ew a hb]
  · have b1 := ((Below.refl w2.heap.size ((w2.setCell ⟨w.heap.size + 1, 0, none⟩ v0).setCell ⟨w.heap.size + 1, 1, none⟩ v1)).alloc (by rw [hsz]; exact Nat.le_refl _) o3).frozen (p := a) (by omega)
    rw [b1, World.frozen?_setCell, World.frozen?_setCell, h.froz a (by simp; omega)]
    exact (((Below.refl w.heap.size w).alloc (Nat.le_refl _) o1).alloc (by simp) o2).frozen hb
  · simp [World.setCell]; omega
  · refine Below.alloc ?_ (by rw [hsz]; omega) o3
    exact ((((((Below.refl T w).alloc (by omega) o1).alloc (by simp; omega) o2).trans h.below).setCell (p := ⟨w.heap.size + 1, 0, none⟩) (by show T ≤ w.heap.size + 1; omega) v0).setCell (p := ⟨w.heap.size + 1, 1, none⟩) (by show T ≤ w.heap.size + 1; omega) v1)

set_option maxHeartbeats 2000000 in
set_option maxRecDepth 100000 in
theorem str_any (T d n cap : Nat) (xs : List Int) (k p : Nat) (cs : List Int) (s : ByteArray) (w : World) (h : Tok w T d n cap xs k) (hkp : k ≤ p) (hpn : p + (quoted cs).length ≤ n) (hn : n ≤ 16777216) (hcap : n ≤ cap)
    (hsep : ∀ j, k ≤ j → j < p → isSep (bt xs j) = true) (hw : ∀ j, j < (quoted cs).length → bt xs (p + j) = bt (quoted cs) j) :
    Calls Tryf.prog 35 #[.agg #[.pointer (some ⟨T, 0, none⟩)], .string s] w fun e w' => e = .returned (.tuple #[.agg #[.int .u8 34, .slice (some ⟨d, p, none⟩) (quoted cs).length (cap - p)], .nilIface]) ∧ AdvG T (p + (quoted cs).length) w w' := by
  have hts := h.size
  have htok := fun o1 o2 => tok_alloc (tok_alloc h o1) o2
  clear h
  have hx := fun W ht => next_str T d n cap xs k p cs W ht hkp hpn hn hcap hsep hw
  clear hsep hw
  generalize (quoted cs).length = q at hx hpn ⊢
  have HX : Hid (∀ W, Tok W T d n cap xs k → Calls Tryf.prog 37 #[.pointer (some ⟨T, 0, none⟩)] W fun e w' => e = .returned (.agg #[.int .u8 34, .slice (some ⟨d, p, none⟩) q (cap - p)]) ∧ AdvG T (p + q) W w') := hx
  clear hx
  go_enter Tryf.func35, Tryf.ntmps35
  go_wp2_with fail
  refine (HX.out _ (htok _ _)).mono ?_
  rintro e w2 ⟨rfl, hadv⟩
  clear htok HX
  have hs2 : w.heap.size + 1 < w2.heap.size := by have := hadv.size; simp at this; omega
  have r0 : w2.cell? ⟨w.heap.size + 1, 0, none⟩ = some (.int .u8 0) := by
    rw [hadv.other _ (by intro e; injection e; omega) (by simp)]
    exact World.cell?_alloc_at _ _ _ _ (by simp)
  have r1 : w2.cell? ⟨w.heap.size + 1, 1, none⟩ = some (.slice none 0 0) := by
    rw [hadv.other _ (by intro e; injection e; omega) (by simp)]
    exact World.cell?_alloc_at _ _ _ _ (by simp)
  have f0 : w2.frozen? ⟨w.heap.size + 1, 0, none⟩ = false := by
    rw [hadv.froz _ (by simp)]; simp
  have f1 : w2.frozen? ⟨w.heap.size + 1, 1, none⟩ = false := by
    rw [hadv.froz _ (by simp)]; simp
  have HA := hadv
  have HA' : Hid (AdvG T (p + q) ((w.alloc (.cells #[.pointer (some ⟨T, 0, none⟩)] 63)).alloc (.cells #[.int .u8 0, .slice none 0 0] 67)) w2) := HA
  clear hadv HA
  go_wp2
  exact bodyPost_ret (v := .tuple #[.agg #[.int .u8 34, .slice (some ⟨d, p, none⟩) q (cap - p)], .nilIface]) (by simp [results, Tryf.results35, go_sem, r0, r1, hs2]) rfl ⟨rfl, advG_str hts HA'.out _ _ _⟩

theorem tok_new (w : World) (d n cap : Nat) (xs : List Int) (hl : xs.length = n) (hd : d < w.heap.size) (hc : ∀ j, j < n → w.cell? ⟨d, j, none⟩ = some (.int .u8 (bt xs j))) (o : Obj) :
    Tok ((w.alloc (.cells #[.slice (some ⟨d, 0, none⟩) n cap, .int .i64 0] 61)).alloc o) w.heap.size d n cap xs 0 := by
  refine tok_alloc ⟨hl, hd, by simp, by simp, by simp, by simp, fun j hj => ?_⟩ o
  rw [World.cell?_alloc_old _ _ _ (by show d ≠ _; omega)]
  exact hc j hj

set_option maxHeartbeats 2000000 in
set_option maxRecDepth 100000 in
theorem zstr_any (d n cap : Nat) (xs : List Int) (p : Nat) (cs : List Int) (s : ByteArray) (w : World) (hl : xs.length = n) (hd : d < w.heap.size) (hc : ∀ j, j < n → w.cell? ⟨d, j, none⟩ = some (.int .u8 (bt xs j)))
    (hpn : p + (quoted cs).length ≤ n) (hn : n ≤ 16777216) (hcap : n ≤ cap)
    (hsep : ∀ j, j < p → isSep (bt xs j) = true) (hw : ∀ j, j < (quoted cs).length → bt xs (p + j) = bt (quoted cs) j) :
    Calls Tryf.prog 19 #[.slice (some ⟨d, 0, none⟩) n cap, .int .i64 0, .string s] w fun e w' =>
      e = .returned (.tuple #[.int .u8 34, .slice (some ⟨d, p, none⟩) (quoted cs).length (cap - p), .int .i64 ((p : Int) + ((quoted cs).length : Nat)), .nilIface]) ∧ Below w.heap.size w w' := by
  have htok := tok_new w d n cap xs hl hd hc (.cells #[.pointer (some ⟨w.heap.size, 0, none⟩)] 63)
  clear hc
  have hx := fun W ht => str_any w.heap.size d n cap xs 0 p cs s W ht (Nat.zero_le _) hpn hn hcap (fun j _ hj => hsep j hj) hw
  clear hsep hw
  generalize (quoted cs).length = q at hx hpn ⊢
  have HX := hx _ htok
  clear hx htok
  go_enter Tryf.func19, Tryf.ntmps19
  go_wp2_with fail
  refine HX.mono ?_
  rintro e w2 ⟨rfl, hadv⟩
  clear HX
  have hs2 : w.heap.size + 1 < w2.heap.size := by have := hadv.size; simp at this; omega
  have hs3 : w.heap.size < w2.heap.size := by omega
  have c1 : w2.cell? ⟨w.heap.size + 1, 0, none⟩ = some (.pointer (some ⟨w.heap.size, 0, none⟩)) := by
    rw [hadv.other _ (by intro e; injection e; omega) (by simp)]
    exact World.cell?_alloc_at _ _ _ _ (by simp)
  have c2 : w2.cell? ⟨w.heap.size, 1, none⟩ = some (.int .i64 ((p : Int) + (q : Int))) := hadv.pos
  have HB : Hid (Below w.heap.size w w2) := ((((Below.refl w.heap.size w).alloc (Nat.le_refl _) _).alloc (by simp) _).trans hadv.below)
  clear hadv
  go_wp2
  go_quiet (fail)
  go_wp2
  exact bodyPost_ret (v := .tuple #[.int .u8 34, .slice (some ⟨d, p, none⟩) q (cap - p), .int .i64 ((p : Int) + (q : Int)), .nilIface]) (by simp [results, Tryf.results19]) rfl ⟨rfl, below_drawn (HB.out.alloc (by omega) _) _⟩

set_option maxHeartbeats 2000000 in
/-- zzEqual at two slices of the same bytes: true. -/
theorem equal_true (g p q c g2 c2 : Nat) (qs : List Int) (w : World) (hl : qs.length = q) (hq : q ≤ 16777216) (h1 : ∀ j, j < q → w.cell? ⟨g, p + j, none⟩ = some (.int .u8 (bt qs j))) (h2 : ∀ j, j < q → w.cell? ⟨g2, j, none⟩ = some (.int .u8 (bt qs j))) :
    Calls Tryf.prog 20 #[.slice (some ⟨g, p, none⟩) q c, .slice (some ⟨g2, 0, none⟩) q c2] w fun e w' => e = .returned (.bool true) ∧ ∃ r, w' = w.drewN r := by
  have H1 : Hid (∀ j, j < q → w.cell? ⟨g, p + j, none⟩ = some (.int .u8 (bt qs j))) := h1
  have H2 : Hid (∀ j, j < q → w.cell? ⟨g2, j, none⟩ = some (.int .u8 (bt qs j))) := h2
  clear h1 h2
  go_enter Tryf.func20, Tryf.ntmps20
  go_wp2
  go_loopg [5] q (fun gk i wr => ∃ (k r : Nat), k ≤ q ∧ gk = q - k ∧ i = .int .i64 k ∧ wr = w.drewN r)
  case atStart => exact ⟨0, 0, Nat.zero_le _, rfl, rfl, rfl⟩
  case round =>
    obtain ⟨k, r, hk, hgk, rfl, rfl⟩ := hrel
    have HG : Hid (gk = q - k) := hgk
    clear hgk
    by_cases hlt : k < q
    · have a1 := H1.out k hlt
      have a2 := H2.out k hlt
      generalize bt qs k = v at a1 a2
      have hlt' : (k : Int) < (q : Int) := by omega
      go_wp2
      go_quiet (fail)
      go_wp2
      go_roundg (q - (k + 1))
      case measure => have := HG.out; omega
      case rel => exact ⟨k + 1, _, by omega, rfl, by go_num, rfl⟩
    · have hlt' : ¬ (k : Int) < (q : Int) := by omega
      go_wp2
      go_ret
      exact ⟨rfl, r, rfl⟩
end Go.Proofs.Qxb6001751aFmt
