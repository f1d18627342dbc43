/-
  A slice of strings among the arguments, opened into what the walks ask.
-/
import Derived.Test.Qxb6000749aTallyStrs
import Derived.SliceStrings
namespace Go.Proofs.Qxb6000749a.Tally
open Go.ChangeShapes Go.WideShapes Go.ChangeAt Go.RowKit

theorem own : ownKnob Try.prog.godebug = none := by kernel_rfl
theorem laidOut : laidOutB Try.prog = true := by kernel_rfl
theorem cells9 : Try.prog.cellsOf 9 = 1 := by kernel_rfl

theorem open_strs {H : Type} {enc : TypeId × Value → H} {W : World} {a : Option Addr} {len cap fuel : Nat} {x : DataW H × List MemPlace}
    (hf : DataW.trod enc Try.prog W 0 (fun _ => true) true fuel 27 [.slice a len cap] = some x) :
    ∃ ss : List ByteArray, ss.length = len ∧ Strs W W.heap.size a ss ∧ (a = none → ss.length = 0 ∧ cap = 0) ∧ ss.length ≤ maxLen := by
  rcases open_strings Try.underlying27 Try.underlying9 cells9 hf with ⟨hcs, _⟩ | ⟨y, l, c, zs, hcs, _, hl, hm, hz, _, hcell, _⟩
  · simp at hcs
    obtain ⟨rfl, rfl, rfl⟩ := hcs
    exact ⟨[], rfl, fun k hk => absurd hk (by simp), fun _ => ⟨rfl, rfl⟩, Nat.zero_le _⟩
  · simp at hcs
    obtain ⟨rfl, rfl, rfl⟩ := hcs
    simp only [if_true] at hz
    have hlen : (zs.take len).length = len := by simp; omega
    refine ⟨zs.take len, hlen, fun k hk => ?_, fun e => (by cases e), by omega⟩
    have hk' : k < len := by omega
    have hc := hcell k (by omega)
    obtain ⟨b, off, spot⟩ := y
    have hspot : spot = none := by simpa [Addr.add] using World.cell?_spot (hcell 0 (by omega))
    subst hspot
    rw [Go.WideShapes.add_plain] at hc
    refine ⟨b, off, rfl, World.block_lt_of_cell? W ⟨b, off + k, none⟩ hc, ?_⟩
    rw [hc, List.getElem_take]
    simp [List.getElem?_eq_getElem (show k < zs.length by omega)]

end Go.Proofs.Qxb6000749a.Tally
