/-
  'Rows.FnBigIntegerCaseTableCardSaid', proved: the row, then the tied card by the builder's one call (the ties are given). The frame is turned after the guide's worked row that lists variables; the walk is ours.
-/
import Derived.Test.Qxb6601452aDoorCards
import Derived.Test.Qxb6601452aDoorTie
import Derived.Test.Qxb6601452aDoorLaw
import Derived.ProofKit
import Derived.OpenShut
import Derived.ShutString
import Derived.LaidLaws
import Derived.Lay
import Derived.SevenTiedAt
import Derived.Stop.Joined
namespace Go.Proofs.Qxb6601452aDoor.fnBigIntegerCaseTable
open Go.ChangeShapes Go.WideShapes Go.ChangeAt Go.RowKit
open Go.ChangeMaps (open_string shut_string)

theorem own : ownKnob Tryd.prog.godebug = none := by kernel_rfl
theorem range_global : Tryd.prog.globalNamed "strconv.ErrRange" = some 1 := by kernel_rfl

/-- WHAT THE CONDITION GIVES THE WALK: the one cell of strconv.ErrRange holds an interface value. -/
theorem range_cell {W : World} (h : laidMetH Tryd.prog Rows.fnBigIntegerCaseTableRow.laid W) : ∃ u v, W.cell? ⟨1, 0, none⟩ = some (.iface u v) := by
  rw [MakeChecks.laidMetH_plain _ _ _ (by kernel_rfl)] at h
  obtain ⟨ps, ⟨_, _, _, _, _, _, _, _, _, _, ⟨_, _, _, _, _, _, _, _, _, _, ⟨_, _, _, _, _, _, _, _, _, _, ⟨g, t, cs, fuel, p, q, hg, ht, hv, hd, _, _⟩, _⟩, _⟩, _⟩, _, _⟩ := h
  obtain rfl := Option.some.inj (range_global.symm.trans hg)
  obtain rfl := Option.some.inj ((show (Tryd.prog.globals[1]?).map (·.type) = some 31 by kernel_rfl).symm.trans ht)
  obtain ⟨_, u, v, e, _, _⟩ := iface_of_trod Tryd.underlying31 hd
  refine ⟨u, v, ?_⟩
  have h0 : cs[0]? = some (.iface u v) := by rw [← Array.getElem?_toList, e]; rfl
  have hv' : W.var? Tryd.prog "strconv.ErrRange" = some cs := hv
  have h1 : W.cell? ⟨1, 0, none⟩ = cs[0]? := by
    have h2 := World.var?_cell range_global hv' 0
    simpa using h2
  exact h1.trans h0

set_option maxRecDepth 100000 in
theorem lifted (os : Os) (started : os.Started) (H : Type) (enc : TypeId × Value → H) :
    ReturnsInHanded {} Tryd.checked os 3 .any (fun w args => (Rows.fnBigIntegerCaseTableSpec.pre enc Tryd.prog Tryd.f3 Rows.fnBigIntegerCaseTableRow.domain false w args ∧ laidMetH Tryd.prog Rows.fnBigIntegerCaseTableRow.laid w) ∧ sizedMet enc Tryd.prog Tryd.f3 (OpenSpec.ofChange Rows.fnBigIntegerCaseTableSpec) false w args)
      (Rows.fnBigIntegerCaseTableSpec.post enc Tryd.prog Tryd.f3 false true false false) := by
  refine returnsInHanded_of_change_and (C := Tryd.checked) (X := fun w _ => laidMetH Tryd.prog Rows.fnBigIntegerCaseTableRow.laid w) (fun _ _ _ hh h => h.of_heap hh) own started (by kernel_rfl) Tryd.func3
    (ChangeSpec.witness_shaped (enc := enc) (C := Tryd.checked) (os := os) (X := fun w _ => laidMetH Tryd.prog Rows.fnBigIntegerCaseTableRow.laid w) false (World.laidAll Tryd.prog os Rows.fnBigIntegerCaseTableRow.laid) #[.string ByteArray.empty] 8 (World.laidAll_os _ _ _)
      (World.shaped_of_ZipB (by kernel_rfl) (by kernel_rfl)) (by kernel_rfl) (by kernel_rfl) (by kernel_rfl)
      (by rw [MakeChecks.laidMetH_plain _ _ _ (by kernel_rfl)]; exact laidMet_laidAll _ (by kernel_rfl) (by kernel_rfl))) ?_
  intro W base args ds gs before hval0 hW hc _ hL _
  have hval : ∀ (j : Nat) t v, Tryd.f3.params[j]? = some t → args[j]? = some v → Value.okWide Tryd.prog W .any base t v := hval0
  have hW' := hW
  obtain ⟨p, q, hA0, hV, rfl, _, _⟩ := hW
  have hA : DataW.TrodAll enc Tryd.prog W 0 (fun _ => true) true Tryd.f3.params.toList args.toList ds p := hA0
  rw [Tryd.params3] at hA hval
  obtain ⟨v0, d0, rfl, rfl, h0⟩ := trodAll_one hA
  obtain ⟨rfl, rfl⟩ := trodVars_none hV
  obtain ⟨s, rfl, rfl, rfl, w0⟩ := open_string Tryd.underlying9 (hval 0 9 v0 rfl rfl) h0
  obtain ⟨u, v, hcell⟩ := range_cell hL
  clear hA0 hval0 hc
  simp only [List.append_nil] at hW'
  refine (law_walk s W _ hcell (.inr ⟨u, v, rfl⟩)).mono fun e W' ⟨he, hb⟩ => ?_
  subst he
  refine ⟨_, rfl, _, _, _, [], [], [], hW', trodAll_mk1 (shut_bool Tryd.underlying4 true), trodAll_mk1 (shut_string Tryd.underlying9 w0), rfl, hb.frame _, fun h => by cases h⟩

theorem row_holds : Rows.FnBigIntegerCaseTableSaid :=
  OpenClaim.holds_of_wide 3 Tryd.f3 rfl rfl rfl rfl rfl rfl rfl ⟨rfl, rfl, rfl, rfl, rfl⟩ rfl rfl rfl rfl rfl (by kernel_rfl) Tryd.func3 (by kernel_rfl)
    (of_decide_eq_true (by kernel_rfl)) (by unfold Func.isWrapper; first | (rw [if_pos (by decide +kernel)]; kernel_rfl) | (rw [if_neg (by decide +kernel)]; exact ⟨rfl, rfl⟩))
    (fun os started H enc _ => lifted os started H enc)

/-- ████ THE STATEMENT ████ -/
theorem proved : Rows.FnBigIntegerCaseTableCardSaid :=
  Claim7.holds_tied_plain_at .later [] [.data, .data, .data, .sentinel, .sentinel] true (true, "e6422c257e5548fdaa556217d7087998e4d5d638c17b5f6077775fed405b38aa") true row_holds (fun _ h => by cases h) (by kernel_rfl) (fun _ h => by cases h) fnBigIntegerCaseTable_row_tie rfl ⟨rfl, rfl⟩ (by kernel_rfl) rfl
    (fun f fn hf hfn => by
      obtain rfl : f = 3 := Option.some.inj ((show Tryd.prog.funcNamed Rows.fnBigIntegerCaseTableRow.func = some 3 by kernel_rfl).symm.trans hf) |>.symm
      obtain rfl : fn = Tryd.f3 := (Option.some.inj (Tryd.func3.symm.trans hfn)).symm
      exact ⟨by kernel_rfl, fun j t ht => by
        rw [Tryd.params3] at ht
        have hm : t ∈ [9] := by simpa using Array.mem_of_getElem? ht
        have hall : ([9].all fun u => !Tryd.prog.wantsStandIn u) = true := by kernel_rfl
        exact (show Tryd.prog.wantsStandIn t = false by simpa using List.all_eq_true.1 hall t hm)⟩)
    (by kernel_rfl)
#print axioms proved
end Go.Proofs.Qxb6601452aDoor.fnBigIntegerCaseTable
