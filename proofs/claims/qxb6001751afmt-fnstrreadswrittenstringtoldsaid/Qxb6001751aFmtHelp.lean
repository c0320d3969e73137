/-
  The law package's helpers: the bound on the lengths (11, 18), zzIsSep (32), zzAllSep (12), zzCloneBytes (13): their contracts.
-/
import Derived.Test.Qxb6001751aFmtSkip
import Derived.WideShapes
namespace Go.Proofs.Qxb6001751aFmt
open Go.RowKit

/-- a string's bytes, as integers -/
def bs (s : ByteArray) : List Int := s.data.toList.map fun b => (b.toNat : Int)
theorem bs_length (s : ByteArray) : (bs s).length = s.size := by simp [bs]
theorem bs_at (s : ByteArray) (k : Nat) (h : k < s.size) : bt (bs s) k = (s[k].toNat : Int) := by
  have h' : k < s.data.toList.length := by simpa using h
  unfold bt bs
  rw [List.getElem?_map, List.getElem?_eq_getElem h']
  rfl

theorem sep_any (c : Int) (w : World) : Calls Tryf.prog 32 #[.int .u8 c] w fun e w' => e = .returned (.bool (isSep c)) ∧ w = w' := by
  cases h : isSep c with
  | true =>
    rcases isSep_true h with rfl | rfl | rfl | rfl | rfl | rfl
    all_goals
      clear h
      go_enter Tryf.func32, Tryf.ntmps32
      go_wp2
      go_ret
      exact ⟨rfl, rfl⟩
  | false =>
    obtain ⟨e1, e2, e3, e4, e5, e6⟩ := isSep_false h
    clear h
    go_enter Tryf.func32, Tryf.ntmps32
    go_wp2
    go_ret
    exact ⟨rfl, rfl⟩

/-- every byte is white space or a separator -/
def allSepB (s : ByteArray) : Bool := decide (∀ j, j < s.size → isSep (bt (bs s) j) = true)
theorem allSepB_iff (s : ByteArray) : allSepB s = true ↔ ∀ j, j < s.size → isSep (bt (bs s) j) = true := by unfold allSepB; exact decide_eq_true_iff

set_option maxHeartbeats 1000000 in
theorem allSep_any (s : ByteArray) (w : World) (hs : s.size ≤ 1048576) :
    Calls Tryf.prog 12 #[.string s] w fun e w' => e = .returned (.bool (allSepB s)) ∧ w = w' := by
  generalize hR : allSepB s = R
  have HR : Hid (allSepB s = R) := hR
  clear hR
  go_enter Tryf.func12, Tryf.ntmps12
  go_wp2
  go_loop [3] (fun i => ∃ k : Nat, k ≤ s.size ∧ i = .int .i64 k ∧ ∀ j, j < k → isSep (bt (bs s) j) = true) (fun i => s.size - (intOf i).toNat)
  case atStart => exact ⟨0, Nat.zero_le _, rfl, fun j hj => by omega⟩
  case round =>
    obtain ⟨k, hk, rfl, hall⟩ := hrel
    have HA : Hid (∀ j, j < k → isSep (bt (bs s) j) = true) := hall
    clear hall
    by_cases hlt : k < s.size
    · have HB : Hid (bt (bs s) k = (s[k].toNat : Int)) := bs_at s k hlt
      go_wp2_with fail
      refine (sep_any _ _).mono ?_
      rintro e w' ⟨rfl, rfl⟩
      generalize hb : isSep (s[k].toNat : Int) = b
      have HC : Hid (isSep (s[k].toNat : Int) = b) := hb
      clear hb
      cases b with
      | true =>
        go_wp2
        go_round
        case rel =>
          refine ⟨k + 1, by omega, by go_num, fun j hj => ?_⟩
          by_cases hj2 : j < k
          · exact HA.out j hj2
          · obtain rfl : j = k := by omega
            rw [HB.out]; exact HC.out
        case measure => simp [intOf]; omega
      | false =>
        have HF : Hid (R = false) := by
          show R = false
          rw [← HR.out]
          apply Bool.eq_false_iff.2
          intro h
          have := (allSepB_iff s).1 h k hlt
          rw [HB.out, HC.out] at this
          cases this
        go_wp2
        go_ret
        exact ⟨by rw [HF.out]; rfl, rfl⟩
    · obtain rfl : k = s.size := by omega
      have HF : Hid (R = true) := by
        show R = true
        rw [← HR.out]
        exact (allSepB_iff s).2 HA.out
      clear hlt hk
      go_wp2
      go_ret
      exact ⟨by rw [HF.out]; rfl, rfl⟩

/-- a slice of bytes that came in -/
structure Came (w : World) (a : Option Addr) (n : Nat) (xs : List Int) : Prop where
  len : xs.length = n
  mem : (a = none ∧ n = 0) ∨ ∃ p, a = some p ∧ ∀ j, j < n → w.cell? (p.add j) = some (.int .u8 (bt xs j))

/-- a slice of bytes in a block of the call's own (nil: none) -/
structure Mine (w : World) (a : Option Addr) (n c : Nat) (xs : List Int) : Prop where
  len : xs.length = n
  mem : (a = none ∧ n = 0 ∧ c = 0) ∨ ∃ g, a = some ⟨g, 0, none⟩ ∧ g < w.heap.size ∧ ∀ j, j < n → w.cell? ⟨g, j, none⟩ = some (.int .u8 (bt xs j))

theorem made (n : Nat) (h : n ≤ 1048576) (w : World) : ∃ W1 : World,
    (Instr.makeSlice 22 (.int .i64 (n : Int)) (.int .i64 (n : Int))).run Tryf.prog w = .ok (.slice (some ⟨w.heap.size, 0, none⟩) n n) W1 ∧
    W1.rowIs w.heap.size 5 n (fun _ => .int .u8 0) ∧ Below w.heap.size w W1 :=
  ⟨_, run_make_row' 22 5 (.int .u8 0) 1 Tryf.underlying22 (by kernel_rfl) rfl .i64 .i64 n (by omega) (by omega) w, World.rowIs_made _ _ _ _, (Below.refl _ _).alloc (Nat.le_refl _) _⟩

/-- the copy, k bytes long so far -/
def half (xs : List Int) (k : Nat) (j : Nat) : Value := if j < k then .int .u8 (bt xs j) else .int .u8 0

theorem block_lt {w : World} {a : Addr} {v : Value} (h : w.cell? a = some v) : a.block < w.heap.size := by
  apply Classical.byContradiction
  intro hn
  have : w.cell? a = none := by
    unfold World.cell?
    simp [Array.getElem?_eq_none (by omega : w.heap.size ≤ a.block)]
  rw [this] at h; cases h

set_option maxHeartbeats 1000000 in
theorem clone_any (a : Option Addr) (n c : Nat) (xs : List Int) (w : World) (h : Came w a n xs) (hn : n ≤ 1048576) :
    Calls Tryf.prog 13 #[.slice a n c] w fun e w' => ∃ a' c', e = .returned (.slice a' n c') ∧ Mine w' a' n c' xs ∧ Below w.heap.size w w' := by
  obtain ⟨hl, hm⟩ := h
  have heq : ∀ (w : World) (a : Option Addr) (n c n' c' : Nat), (binOp .eql 22 (.slice a n c) (.slice none n' c')).run Tryf.prog w = .ok (.bool a.isNone) w :=
    fun w a n c n' c' => Lib.run_eql_slice_nil w _ _ a n c n' c' Tryf.underlying22
  rcases hm with ⟨rfl, rfl⟩ | ⟨p, rfl, hc⟩
  · go_enter Tryf.func13, Tryf.ntmps13
    go_wp2
    go_ret
    exact ⟨none, 0, rfl, ⟨hl, .inl ⟨rfl, rfl, rfl⟩⟩, Below.refl _ _⟩
  · obtain ⟨W1, hmk, hr, hb⟩ := made n hn w
    have HL : Hid (xs.length = n) := hl
    clear hl
    have HC : Hid (∀ j, j < n → w.cell? (p.add j) = some (.int .u8 (bt xs j))) := hc
    clear hc
    have HR : Hid (W1.rowIs w.heap.size 5 n (fun _ => .int .u8 0)) := hr
    clear hr
    go_enter Tryf.func13, Tryf.ntmps13
    go_wp2
    go_loopw [4] (fun i wr => ∃ k : Nat, k ≤ n ∧ i = .int .i64 k ∧ wr.rowIs w.heap.size 5 n (half xs k) ∧ Below w.heap.size w wr) (fun i _ => n - (intOf i).toNat)
    case atStart => exact ⟨0, Nat.zero_le _, rfl, HR.out.congr (fun i _ => by simp [half]), hb⟩
    case round =>
      obtain ⟨k, hk, rfl, hrow, hbl⟩ := hrel
      have HW : Hid (wr.rowIs w.heap.size 5 n (half xs k)) := hrow
      clear hrow
      by_cases hlt : k < n
      · have hsrc : wr.cell? (p.add k) = some (.int .u8 (bt xs k)) := by
          have h0 := HC.out k hlt
          rw [hbl.cell (block_lt h0)]; exact h0
        have hspot : p.spot = none := by simpa [Addr.add] using World.cell?_spot (HC.out 0 (by omega))
        obtain ⟨pb, po, ps⟩ := p
        have e1 : ps = none := hspot
        subst e1
        have hsrc' : wr.cell? ⟨pb, po + k, none⟩ = some (.int .u8 (bt xs k)) := by rw [WideShapes.add_plain] at hsrc; exact hsrc
        clear hsrc hspot
        have hdst : wr.cell? ⟨w.heap.size, k, none⟩ = some (half xs k k) := HW.out.cell hlt
        have hfr : wr.frozen? ⟨w.heap.size, k, none⟩ = false := HW.out.frozen k
        have hlt' : (k : Int) < (n : Int) := by omega
        have HS := HW.out.set k (.int .u8 (bt xs k))
        have HS' : Hid ((wr.setCell ⟨w.heap.size, k, none⟩ (.int .u8 (bt xs k))).rowIs w.heap.size 5 n (half xs (k + 1))) := HS.congr (fun i _ => by
          unfold half
          by_cases h1 : i = k
          · subst h1; simp
          · by_cases h2 : i < k
            · simp [h1, h2, show i < k + 1 by omega]
            · simp [h1, h2, show ¬ i < k + 1 by omega])
        clear HS
        have HB' : Hid (Below w.heap.size w (wr.setCell ⟨w.heap.size, k, none⟩ (.int .u8 (bt xs k)))) := hbl.setCell (Nat.le_refl _) _
        clear hbl
        generalize bt xs k = v at hsrc' HS' HB'
        generalize half xs k k = v0 at hdst
        go_wp2
        go_roundw
        case rel => exact ⟨k + 1, by omega, by go_num, HS'.out, HB'.out⟩
        case measure => simp [intOf]; omega
      · obtain rfl : k = n := by omega
        have HB' : Hid (Below w.heap.size w wr) := hbl
        clear hbl hlt hk
        go_wp2
        go_ret
        refine ⟨_, _, rfl, ⟨HL.out, .inr ⟨_, rfl, HW.out.lt, fun j hj => ?_⟩⟩, HB'.out⟩
        rw [HW.out.cell hj]; simp [half, hj]
end Go.Proofs.Qxb6001751aFmt
