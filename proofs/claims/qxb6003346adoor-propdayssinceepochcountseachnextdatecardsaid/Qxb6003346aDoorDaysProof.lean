/-
  'Rows.PropDaysSinceEpochCountsEachNextDateCardSaid', proved: the row (after the guide's MapyProofs, Tab6Proofs), then the tied card (after MapyCard).
-/
import Derived.Test.Qxb6003346aDoorRows
import Derived.Test.Qxb6003346aDoorTie
import Derived.Test.Qxb6003346aDoorCards
import Derived.Test.Qxb6003346aDoorDaysWalks
import Derived.ProofKit
import Derived.LaidMore
import Derived.OpenShut
import Derived.Stop.Joined
import Derived.Lib.LaidTab
import Derived.SevenTiedAt
import Derived.ChangeSame
import Derived.ChangeVars
namespace Go.Proofs.Qxb6003346aDoor.Days
open Go.ChangeShapes Go.WideShapes Go.ChangeAt Go.RowKit

theorem own : ownKnob Tryd.prog.godebug = none := by kernel_rfl

/-- The listed variable's name, off the given row. -/
abbrev nm : String := Rows.propDaysSinceEpochCountsEachNextDateSpec.vars.headD ""
theorem vars_nm : Rows.propDaysSinceEpochCountsEachNextDateSpec.vars = [nm] := rfl
theorem laid_nm : Rows.propDaysSinceEpochCountsEachNextDateRow.laid = [(nm, Lib.tabData .u8 tab)] := rfl
theorem gNm : Tryd.prog.globalNamed nm = some 1 := by kernel_rfl
theorem tNm : (Tryd.prog.globals[1]?).map (·.type) = some 69 := by kernel_rfl
theorem cells5 : Tryd.prog.cellsOf 5 = 1 := by kernel_rfl
theorem cells69 : Tryd.prog.cellsOf 69 = 12 := by kernel_rfl

/-- The door's own heap meets the condition. -/
theorem door_met (os : Os) (args : Array Value) : laidMetH Tryd.prog Rows.propDaysSinceEpochCountsEachNextDateRow.laid ((World.doorLaid Tryd.prog 48 os).forCall (fun _ _ => 0) ⟨#[], args, []⟩).memory :=
  laidMetH_of_parts3 (fuel := 8) (laidMet_of_run' 8 (by kernel_rfl) (by kernel_rfl)) (by kernel_rfl) (by kernel_rfl)

/-- What the condition gives: the variable holds the table. -/
theorem tab_of_laid {W : World} (h : laidMetH Tryd.prog Rows.propDaysSinceEpochCountsEachNextDateRow.laid W) : Lib.TabIs Tryd.prog W nm .u8 tab := by
  rw [MakeChecks.laidMetH_plain _ _ _ (by kernel_rfl), laid_nm] at h
  exact Lib.tabIs_of_head gNm tNm Tryd.underlying69 Tryd.underlying5 cells5 cells69 h

def cells12 : Array Value := (tab.map fun z => Value.int .u8 z).toArray
theorem reads_table {H : Type} (enc : TypeId × Value → H) (W : World) (sp : Nat → Bool) : DataW.trod enc Tryd.prog W 0 sp true 3 69 cells12.toList = some (Lib.tabData .u8 tab, []) := by kernel_rfl

set_option maxRecDepth 100000 in
theorem lifted (os : Os) (started : os.Started) (H : Type) (enc : TypeId × Value → H) :
    ReturnsInHanded {} Tryd.checked os 4 .any (fun w args => (Rows.propDaysSinceEpochCountsEachNextDateSpec.pre enc Tryd.prog Tryd.f4 [] false w args ∧ laidMetH Tryd.prog Rows.propDaysSinceEpochCountsEachNextDateRow.laid w) ∧ sizedMet enc Tryd.prog Tryd.f4 (OpenSpec.ofChange Rows.propDaysSinceEpochCountsEachNextDateSpec) false w args)
      (Rows.propDaysSinceEpochCountsEachNextDateSpec.post enc Tryd.prog Tryd.f4 false true false false) := by
  refine returnsInHanded_of_change_and (C := Tryd.checked) (X := fun w _ => laidMetH Tryd.prog Rows.propDaysSinceEpochCountsEachNextDateRow.laid w) (fun _ _ _ hh h => h.of_heap hh) own started (by kernel_rfl) Tryd.func4
    (ChangeSpec.witness_shaped (enc := enc) (C := Tryd.checked) (os := os) (X := fun w _ => laidMetH Tryd.prog Rows.propDaysSinceEpochCountsEachNextDateRow.laid w) false (World.doorLaid Tryd.prog 48 os) #[.int .i64 0, .int .i64 0, .int .i64 0] 8 rfl (World.shaped_of_RefB (by kernel_rfl) (by kernel_rfl)) (by kernel_rfl) (by kernel_rfl) (by kernel_rfl) (door_met os _)) ?_
  intro W base args ds gs before hval0 hW _ _ hL _
  have hval : ∀ (j : Nat) t v, Tryd.f4.params[j]? = some t → args[j]? = some v → Value.okWide Tryd.prog W .any base t v := hval0
  have hW' := hW
  obtain ⟨p, q, hA0, hV0, rfl, hfz, hnd⟩ := hW
  have hA : DataW.TrodAll enc Tryd.prog W 0 (fun _ => true) true Tryd.f4.params.toList args.toList ds p := hA0
  have hV : DataW.TrodVars enc Tryd.prog W (fun _ => true) [nm] gs q := hV0
  rw [Tryd.params4] at hA hval
  obtain ⟨v0, v1, v2, d0, d1, d2, p0, p1, p2, rfl, rfl, rfl, h0, h1, h2⟩ := trodAll_three hA
  obtain ⟨a0, rfl, rfl, rfl, w0⟩ := open_int Tryd.underlying3 (hval 0 3 v0 rfl rfl) h0
  obtain ⟨a1, rfl, rfl, rfl, w1⟩ := open_int Tryd.underlying3 (hval 1 3 v1 rfl rfl) h1
  obtain ⟨a2, rfl, rfl, rfl, w2⟩ := open_int Tryd.underlying3 (hval 2 3 v2 rfl rfl) h2
  have hT := tab_of_laid hL
  obtain ⟨g, t, cs, fuel, d, p', rfl, hg, ht, hvar, hd, rfl⟩ := trodVars_one hV
  obtain rfl := Option.some.inj (gNm.symm.trans hg)
  obtain rfl := Option.some.inj (tNm.symm.trans ht)
  obtain rfl : cs = cells12 := Option.some.inj (hvar.symm.trans hT)
  obtain ⟨rfl, rfl⟩ := DataW.Trod.unique (v := .agg cells12) ⟨fuel, hd⟩ ⟨3, reads_table enc W _⟩
  clear hA0 hV0 hval0
  have hvars : ∀ sp : Nat → Bool, DataW.TrodVars enc Tryd.prog W sp [nm] [Lib.tabData .u8 tab] (MemPlace.row ⟨1, 0, none⟩ cells12.size ++ [] ++ []) := fun sp =>
    ⟨1, 69, cells12, 3, [], [], hg, ht, hvar, reads_table enc W sp, rfl, rfl⟩
  refine (law_any a0 a1 a2 W (fun i hi => hT.cell gNm i hi)).mono fun e W' ⟨he, hw⟩ => ?_
  subst he; subst hw
  exact ⟨_, rfl, post_of_same (pa := []) hW' (fun _ _ _ => trodAll_mk1 (shut_bool Tryd.underlying4 true)) (fun sp _ => trodAll_mk3 (shut_int Tryd.underlying3 w0) (shut_int Tryd.underlying3 w1) (shut_int Tryd.underlying3 w2)) (fun sp _ => hvars sp) (by simp)
    (World.keptBut_refl _ _) (fun _ => rfl) (ok_one (by kernel_rfl) rfl (okWide_bool_mk Tryd.underlying4 _))⟩

theorem row_holds : Rows.PropDaysSinceEpochCountsEachNextDateSaid :=
  OpenClaim.holds_of_wide 4 Tryd.f4 rfl rfl rfl rfl rfl rfl rfl ⟨rfl, rfl, rfl, rfl, rfl⟩ rfl rfl rfl rfl rfl (by kernel_rfl) Tryd.func4 (by kernel_rfl)
    (of_decide_eq_true (by kernel_rfl)) (by unfold Func.isWrapper; first | (rw [if_pos (by decide +kernel)]; kernel_rfl) | (rw [if_neg (by decide +kernel)]; exact ⟨rfl, rfl⟩))
    (fun os started H enc _ => lifted os started H enc)

theorem named4 : Tryd.prog.funcNamed Rows.propDaysSinceEpochCountsEachNextDateRow.func = some 4 := by kernel_rfl

/-- ████ THE TIED CARD ████ -/
theorem proved : Rows.PropDaysSinceEpochCountsEachNextDateCardSaid :=
  Claim7.holds_tied_plain_at .later [] [.data] true Rows.propDaysSinceEpochCountsEachNextDateCard.stood.harness true
    row_holds (fun _ h => by cases h) (by kernel_rfl) (fun _ h => by cases h) propDaysSinceEpochCountsEachNextDate_row_tie rfl ⟨rfl, rfl⟩ (by kernel_rfl) rfl
    (fun f fn hf hfn => by
      obtain rfl : f = 4 := Option.some.inj (named4.symm.trans hf) |>.symm
      obtain rfl : fn = Tryd.f4 := (Option.some.inj (Tryd.func4.symm.trans hfn)).symm
      exact ⟨by kernel_rfl, fun j t ht => by
        rw [Tryd.params4] at ht
        have hm : t ∈ [3] := by
          have := Array.mem_of_getElem? ht
          simpa using this
        have hall : ([3].all fun u => !Tryd.prog.wantsStandIn u) = true := by kernel_rfl
        exact (show Tryd.prog.wantsStandIn t = false by simpa using List.all_eq_true.1 hall t hm)⟩)
    (by kernel_rfl)
#print axioms proved
end Go.Proofs.Qxb6003346aDoor.Days
