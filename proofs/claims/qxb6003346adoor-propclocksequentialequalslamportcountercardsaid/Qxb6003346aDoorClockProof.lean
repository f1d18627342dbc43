/-
  'Rows.PropClockSequentialEqualsLamportCounterCardSaid', proved: the row (after the guide's Sent6Proofs, MapyProofs and the shell for a law with a slice), then the tied card (after MapyCard).
-/
import Derived.Test.Qxb6003346aDoorRows
import Derived.Test.Qxb6003346aDoorTie
import Derived.Test.Qxb6003346aDoorCards
import Derived.Test.Qxb6003346aDoorClockWalk
import Derived.ProofKit
import Derived.LaidMore
import Derived.OpenShut
import Derived.Stop.Joined
import Derived.Stop.LaidErr
import Derived.SevenTiedAt
import Derived.ChangeSame
import Derived.ChangeVars
import Derived.ChangeOld
import Derived.Below
import Derived.Carry
import Derived.WalkSmall
import Derived.Deep.SlicePairs
namespace Go.Proofs.Qxb6003346aDoor.Clock
open Go.ChangeShapes Go.WideShapes Go.ChangeAt Go.RowKit

theorem own : ownKnob Tryd.prog.godebug = none := by kernel_rfl
theorem laidOut : laidOutB Tryd.prog = true := by kernel_rfl

/-- The listed variable's name, its dynamic type's name and its text, off the given row. -/
abbrev nm : String := Rows.propClockSequentialEqualsLamportCounterSpec.vars.headD ""
def nameOf : DataW Unit → String
  | .iface n _ => n
  | _ => ""
def textOf : DataW Unit → List UInt8
  | .iface _ (.ptr (.agg [.lit (.string t)])) => t
  | _ => []
abbrev nmT : String := nameOf Rows.laid_example_com_tallyclock_tallyclock_ErrOverflow
abbrev txt : List UInt8 := textOf Rows.laid_example_com_tallyclock_tallyclock_ErrOverflow
theorem laid_nm : Rows.propClockSequentialEqualsLamportCounterRow.laid = [(nm, .iface nmT (.ptr (.agg [.lit (.string txt)])))] := rfl
theorem gNm : Tryd.prog.globalNamed nm = some 0 := by kernel_rfl
theorem tNm : (Tryd.prog.globals[0]?).map (·.type) = some 52 := by kernel_rfl
theorem cells130 : Tryd.prog.cellsOf 130 = 1 := by kernel_rfl
theorem cells9 : Tryd.prog.cellsOf 9 = 1 := by kernel_rfl
theorem cells50 : Tryd.prog.cellsOf 50 = 2 := by kernel_rfl
theorem cells3 : Tryd.prog.cellsOf 3 = 1 := by kernel_rfl
theorem cells24 : Tryd.prog.cellsOf 24 = 1 := by kernel_rfl

theorem row104 (u : TypeId) (h : Tryd.prog.typeName? 3 u = some nmT) : u = 104 :=
  typeName_ptr_named (nm := "errors.errorString") (by kernel_rfl) (by kernel_rfl) (by decide) u (h.trans (by kernel_rfl))

/-- The door's own heap meets the condition. -/
theorem door_met (os : Os) (args : Array Value) : laidMetH Tryd.prog Rows.propClockSequentialEqualsLamportCounterRow.laid ((World.doorLaid Tryd.prog 48 os).forCall (fun _ _ => 0) ⟨#[], args, []⟩).memory :=
  laidMetH_of_parts3 (fuel := 8) (laidMet_of_run' 8 (by kernel_rfl) (by kernel_rfl)) (by kernel_rfl) (by kernel_rfl)

/-- What the condition gives: the variable holds an error of errors.New's make. -/
theorem err_of_laid {W : World} (h : laidMetH Tryd.prog Rows.propClockSequentialEqualsLamportCounterRow.laid W) : ∃ x : Addr, W.var? Tryd.prog nm = some #[.iface 104 (.pointer (some x))] := by
  rw [MakeChecks.laidMetH_plain _ _ _ (by kernel_rfl), laid_nm] at h
  obtain ⟨a, s, hv, _⟩ := laid_sentinel h gNm tNm Tryd.underlying52 row104 Tryd.underlying104 Tryd.underlying130 rfl rfl Tryd.underlying9 cells130 cells9
  exact ⟨a, hv⟩

/-- The slice of steps, opened. -/
theorem open_ops {H : Type} {enc : TypeId × Value → H} {W : World} {a : Option Addr} {len cap fuel : Nat} {x : DataW H × List MemPlace}
    (hf : DataW.trod enc Tryd.prog W 0 (fun _ => true) true fuel 37 [.slice a len cap] = some x) :
    ∃ ks : List (Int × Int), ks.length = len ∧ Ops W W.heap.size a ks ∧ ks.length ≤ maxLen := by
  rcases Deep.open_slice_pairs Tryd.underlying37 Tryd.underlying50 cells50 rfl rfl cells3 cells24 hf with ⟨hcs, _⟩ | ⟨y, l, c, m, n, V0, V1, D0, D1, P0, P1, hcs, _, hl, hm, hmm, _, hall⟩
  · simp at hcs
    obtain ⟨rfl, rfl, rfl⟩ := hcs
    exact ⟨[], rfl, fun k hk => absurd hk (by simp), Nat.zero_le _⟩
  · simp at hcs
    obtain ⟨rfl, rfl, rfl⟩ := hcs
    simp only [if_true] at hmm
    refine ⟨(List.range len).map fun i => (intOf (V0 i), intOf (V1 i)), by simp, fun k hk => ?_, by simp; omega⟩
    have hk' : k < len := by simpa using hk
    obtain ⟨h0, h1, t0, t1⟩ := hall k (by omega)
    obtain ⟨z0, _, _, _⟩ := hall 0 (by omega)
    obtain ⟨b, off, spot⟩ := y
    have hspot : spot = none := by simpa [Addr.add] using World.cell?_spot z0
    subst hspot
    rw [Go.WideShapes.add_plain] at h0 h1
    obtain ⟨n0, e0, _, _⟩ := DataW.trod_int Tryd.underlying3 t0
    obtain ⟨n1, e1, _, wf1⟩ := DataW.trod_int Tryd.underlying24 t1
    simp only [List.cons.injEq, and_true] at e0 e1
    have bd := bounds_u64 wf1
    rw [e0] at h0
    rw [e1] at h1
    refine ⟨b, off, rfl, World.block_lt_of_cell? W ⟨b, off + k * 2, none⟩ h0, ?_, ?_, ?_, ?_⟩
    · rw [h0]; simp [e0, intOf]
    · rw [show off + k * 2 + 1 = off + (k * 2 + 1) by omega, h1]; simp [e1, intOf]
    · simpa [e1, intOf] using bd.1
    · simpa [e1, intOf] using bd.2

set_option maxRecDepth 100000 in
theorem lifted (os : Os) (started : os.Started) (H : Type) (enc : TypeId × Value → H) :
    ReturnsInHanded {} Tryd.checked os 5 .any (fun w args => (Rows.propClockSequentialEqualsLamportCounterSpec.pre enc Tryd.prog Tryd.f5 [] false w args ∧ laidMetH Tryd.prog Rows.propClockSequentialEqualsLamportCounterRow.laid w) ∧ sizedMet enc Tryd.prog Tryd.f5 (OpenSpec.ofChange Rows.propClockSequentialEqualsLamportCounterSpec) false w args)
      (Rows.propClockSequentialEqualsLamportCounterSpec.post enc Tryd.prog Tryd.f5 false true false false) := by
  refine returnsInHanded_of_change_and (C := Tryd.checked) (X := fun w _ => laidMetH Tryd.prog Rows.propClockSequentialEqualsLamportCounterRow.laid w) (fun _ _ _ hh h => h.of_heap hh) own started (by kernel_rfl) Tryd.func5
    (ChangeSpec.witness_shaped (enc := enc) (C := Tryd.checked) (os := os) (X := fun w _ => laidMetH Tryd.prog Rows.propClockSequentialEqualsLamportCounterRow.laid w) false (World.doorLaid Tryd.prog 48 os) #[.int .u64 0, .slice none 0 0] 8 rfl (World.shaped_of_RefB (by kernel_rfl) (by kernel_rfl)) (by kernel_rfl) (by kernel_rfl) (by kernel_rfl) (door_met os _)) ?_
  intro W base args ds gs before hval0 hW _ _ hL _
  have hval : ∀ (j : Nat) t v, Tryd.f5.params[j]? = some t → args[j]? = some v → Value.okWide Tryd.prog W .any base t v := hval0
  have hW' := hW
  obtain ⟨p, q, hA0, hV0, rfl, hfz, hnd⟩ := hW
  have hA : DataW.TrodAll enc Tryd.prog W 0 (fun _ => true) true Tryd.f5.params.toList args.toList ds p := hA0
  have hV : DataW.TrodVars enc Tryd.prog W (fun _ => true) [nm] gs q := hV0
  rw [Tryd.params5] at hA hval
  obtain ⟨v0, v1, d0, d1, p0, p1, rfl, rfl, rfl, h0, h1⟩ := trodAll_two hA
  obtain ⟨s, rfl, rfl, rfl, ws⟩ := open_int Tryd.underlying24 (hval 0 24 v0 rfl rfl) h0
  obtain ⟨a, len, cap, rfl⟩ := okWide_slice Tryd.underlying37 (hval 1 37 v1 rfl rfl)
  have k1 := h1
  have lt1 : ∀ x ∈ p1, x.block < W.heap.size := by obtain ⟨m, hm⟩ := k1; exact DataW.trod_lt m _ _ _ hm
  obtain ⟨ks, hlen, hO, hm⟩ : ∃ ks : List (Int × Int), ks.length = len ∧ Ops W W.heap.size a ks ∧ ks.length ≤ maxLen := by
    obtain ⟨fuel, hf⟩ := h1
    exact open_ops (by simpa [Value.cells] using hf)
  subst hlen
  have bs := bounds_u64 ws
  obtain ⟨x, hv⟩ := err_of_laid hL
  obtain ⟨rfl, rfl⟩ := hV.unique (vars_read1 enc gNm tNm Tryd.underlying52 hv trivial _)
  clear hA0 hV0 hval0
  have hE : W.cell? ⟨0, 0, none⟩ = some (.iface 104 (.pointer (some x))) := by simpa using World.var?_cell gNm hv 0
  have hC : 0 < W.heap.size := World.block_lt_of_cell? W ⟨0, 0, none⟩ hE
  refine (clock_walk s a cap ks x W bs.1 bs.2 hO hm hE).mono fun e W' ⟨he, bel⟩ => ?_
  subst he
  have hv' : W'.var? Tryd.prog nm = some #[.iface 104 (.pointer (some x))] := var?_below bel gNm hC hv
  exact ⟨_, rfl, _, _, _, [], [] ++ p1, [.cell 0 0], hW', trodAll_mk1 (shut_bool Tryd.underlying4 true), trodAll_mk2 (shut_int Tryd.underlying24 ws) (Below.trod laidOut (by kernel_rfl) (of_decide_eq_true (by kernel_rfl)) k1 bel lt1),
    vars_read1 enc gNm tNm Tryd.underlying52 hv' trivial _, bel.frame _, fun h => by cases h⟩

theorem row_holds : Rows.PropClockSequentialEqualsLamportCounterSaid :=
  OpenClaim.holds_of_wide 5 Tryd.f5 rfl rfl rfl rfl rfl rfl rfl ⟨rfl, rfl, rfl, rfl, rfl⟩ rfl rfl rfl rfl rfl (by kernel_rfl) Tryd.func5 (by kernel_rfl)
    (of_decide_eq_true (by kernel_rfl)) (by unfold Func.isWrapper; first | (rw [if_pos (by decide +kernel)]; kernel_rfl) | (rw [if_neg (by decide +kernel)]; exact ⟨rfl, rfl⟩))
    (fun os started H enc _ => lifted os started H enc)

theorem named5 : Tryd.prog.funcNamed Rows.propClockSequentialEqualsLamportCounterRow.func = some 5 := by kernel_rfl

/-- ████ THE TIED CARD ████ -/
theorem proved : Rows.PropClockSequentialEqualsLamportCounterCardSaid :=
  Claim7.holds_tied_plain_at .later [] [.called] true Rows.propClockSequentialEqualsLamportCounterCard.stood.harness true
    row_holds (fun _ h => by cases h) (by kernel_rfl) (fun _ h => by cases h) propClockSequentialEqualsLamportCounter_row_tie rfl ⟨rfl, rfl⟩ (by kernel_rfl) rfl
    (fun f fn hf hfn => by
      obtain rfl : f = 5 := Option.some.inj (named5.symm.trans hf) |>.symm
      obtain rfl : fn = Tryd.f5 := (Option.some.inj (Tryd.func5.symm.trans hfn)).symm
      exact ⟨by kernel_rfl, fun j t ht => by
        rw [Tryd.params5] at ht
        have hm : t ∈ [24, 37] := by
          have := Array.mem_of_getElem? ht
          simpa using this
        have hall : ([24, 37].all fun u => !Tryd.prog.wantsStandIn u) = true := by kernel_rfl
        exact (show Tryd.prog.wantsStandIn t = false by simpa using List.all_eq_true.1 hall t hm)⟩)
    (by kernel_rfl)
#print axioms proved
end Go.Proofs.Qxb6003346aDoor.Clock
