/-
  The tally in memory: block B holds the slice value, which owns a row of five-cell structs.
-/
import Derived.Test.Qxb6000749aChecked
import Derived.Test.Qxb6000749aTallyPlain
import Derived.WalkKit
import Derived.ProofKit
import Derived.WalkLawsBesides
import Derived.WalkSpells
import Derived.Deep.QuietTactic
import Derived.BigQuiet
namespace Go.Proofs.Qxb6000749a.Tally
open Go.RowKit

theorem info52 : (Try.prog.info? 52).map (fun i => (i.zero, i.size, i.bytes)) = some (some (.agg #[.string ⟨#[]⟩, .int .i64 0, .int .i64 0, .string ⟨#[]⟩, .string ⟨#[]⟩]), 5, 64) := by kernel_rfl
theorem info9 : (Try.prog.info? 9).map (fun i => (i.zero, i.size, i.bytes)) = some (some (.string ⟨#[]⟩), 1, 16) := by kernel_rfl

/-- The five cells of one entry. -/
def five (p : ByteArray × Int) : List Value := [.string p.1, .int .i64 0, .int .i64 p.2, .string ⟨#[]⟩, .string ⟨#[]⟩]
/-- The cells of a tally. -/
def flat : List (ByteArray × Int) → List Value
  | [] => []
  | p :: r => five p ++ flat r

theorem flat_length : ∀ T : List (ByteArray × Int), (flat T).length = T.length * 5
  | [] => rfl
  | p :: r => by
    rw [flat, List.length_append, flat_length r]
    simp [five]
    omega

theorem flat_snoc : ∀ (T : List (ByteArray × Int)) (p : ByteArray × Int), flat (T ++ [p]) = flat T ++ five p
  | [], p => by simp [flat]
  | q :: r, p => by rw [List.cons_append, flat, flat_snoc r p, flat, List.append_assoc]

theorem flat_at : ∀ (T : List (ByteArray × Int)) (k j : Nat) (hk : k < T.length), j < 5 → (flat T)[k * 5 + j]? = (five T[k])[j]?
  | [], k, _, hk, _ => absurd hk (by simp)
  | p :: r, 0, j, _, hj => by
    rw [flat, List.getElem?_append_left (by simp [five]; omega)]
    simp
  | p :: r, k + 1, j, hk, hj => by
    rw [flat, List.getElem?_append_right (by simp [five]; omega)]
    have e : (k + 1) * 5 + j - (five p).length = k * 5 + j := by simp [five]; omega
    rw [e, flat_at r k j (by simpa using hk) hj]
    simp

theorem flat_set : ∀ (T : List (ByteArray × Int)) (k : Nat) (hk : k < T.length) (c : Int), (flat T).set (k * 5 + 2) (.int .i64 c) = flat (T.set k (T[k].1, c))
  | [], k, hk, _ => absurd hk (by simp)
  | p :: r, 0, _, c => by
    simp [flat, five]
  | p :: r, k + 1, hk, c => by
    rw [flat, List.set_append_right _ _ (by simp [five]; omega)]
    have e : (k + 1) * 5 + 2 - (five p).length = k * 5 + 2 := by simp [five]; omega
    rw [e, flat_set r k (by simpa using hk) c, List.set_cons_succ, flat]
    simp

/-- THE TALLY LIES IN THE WORLD: block B holds the value v; v owns the entries T. -/
structure Tal (w : World) (B : Nat) (v : Value) (T : List (ByteArray × Int)) : Prop where
  one : w.heap[B]? = some (.cells #[v] 32 (0, 0))
  own : w.ownsRow (B + 1) 52 5 v T.length (flat T)

theorem Tal.cell {w : World} {B : Nat} {v : Value} {T : List (ByteArray × Int)} (h : Tal w B v T) : w.cell? ⟨B, 0, none⟩ = some v := cell_of_one h.one
theorem Tal.free {w : World} {B : Nat} {v : Value} {T : List (ByteArray × Int)} (h : Tal w B v T) : w.frozen? ⟨B, 0, none⟩ = false := free_of_one h.one
theorem Tal.lt {w : World} {B : Nat} {v : Value} {T : List (ByteArray × Int)} (h : Tal w B v T) : B < w.heap.size := lt_of_block h.one

/-- The value's shape: a slice of the tally's length; where there is an entry, at a block's head. -/
theorem Tal.shape {w : World} {B : Nat} {v : Value} {T : List (ByteArray × Int)} (h : Tal w B v T) :
    ∃ ao cap, v = .slice ao T.length cap ∧ (∀ k, k < T.length → ∃ g, ao = some ⟨g, 0, none⟩) := by
  rcases h.own.2 with ⟨rfl, h0⟩ | ⟨g, cap, cur, rfl, _⟩
  · exact ⟨none, 0, by rw [h0], fun k hk => by omega⟩
  · exact ⟨_, cap, rfl, fun _ _ => ⟨g, rfl⟩⟩

/-- Cell j of entry k. -/
theorem Tal.entry {w : World} {B g cap : Nat} {T : List (ByteArray × Int)} (h : Tal w B (.slice (some ⟨g, 0, none⟩) T.length cap) T) {k : Nat} (hk : k < T.length) (j : Nat) (hj : j < 5) :
    w.cell? ⟨g, k * 5 + j, none⟩ = (five T[k])[j]? := by
  rw [h.own.cellAt (k * 5 + j) (by omega), flat_at T k j hk hj]

/-- The form of entry k. -/
theorem Tal.form {w : World} {B g cap : Nat} {T : List (ByteArray × Int)} (h : Tal w B (.slice (some ⟨g, 0, none⟩) T.length cap) T) {k : Nat} (hk : k < T.length) :
    w.cell? ⟨g, k * 5, none⟩ = some (.string T[k].1) := h.entry hk 0 (by omega)

/-- The count of entry k. -/
theorem Tal.count {w : World} {B g cap : Nat} {T : List (ByteArray × Int)} (h : Tal w B (.slice (some ⟨g, 0, none⟩) T.length cap) T) {k : Nat} (hk : k < T.length) :
    w.cell? ⟨g, k * 5 + 2, none⟩ = some (.int .i64 T[k].2) := h.entry hk 2 (by omega)

/-- Another count stored into entry k. -/
theorem Tal.recount {w : World} {B g cap : Nat} {T : List (ByteArray × Int)} (h : Tal w B (.slice (some ⟨g, 0, none⟩) T.length cap) T) {k : Nat} (hk : k < T.length) (c : Int) :
    Tal (w.setCell ⟨g, k * 5 + 2, none⟩ (.int .i64 c)) B (.slice (some ⟨g, 0, none⟩) (T.set k (T[k].1, c)).length cap) (T.set k (T[k].1, c)) ∧ Below B w (w.setCell ⟨g, k * 5 + 2, none⟩ (.int .i64 c)) := by
  have hg := h.own.lt g rfl
  refine ⟨⟨?_, ?_⟩, (Below.refl _ _).setCell (by show B ≤ g; omega) _⟩
  · rw [Below.heap_setCell _ _ _ _ (by show B ≠ g; omega)]
    simpa using h.one
  · rw [← flat_set T k hk c, List.length_set]
    exact (h.own.stored (k * 5 + 2) _).1

theorem Tal.drewN {w : World} {B : Nat} {v : Value} {T : List (ByteArray × Int)} (h : Tal w B v T) (q : Nat) : Tal (w.drewN q) B v T := ⟨h.one, h.own⟩

/-- A new block leaves the tally as it is. -/
theorem Tal.alloc {w : World} {B : Nat} {v : Value} {T : List (ByteArray × Int)} (h : Tal w B v T) (o : Obj) : Tal (w.alloc o) B v T :=
  ⟨by rw [Below.heap_alloc _ _ _ h.lt]; exact h.one, h.own.alloc o⟩

/-- Behind an append to the row: the new value stored into block B. -/
theorem Tal.grown {w w1 : World} {B : Nat} {v v' : Value} {T T' : List (ByteArray × Int)} (h : Tal w B v T) (hg : w.grownBy w1 v.ownBlock)
    (ho : w1.ownsRow (B + 1) 52 5 v' T'.length (flat T')) : Tal (w1.setCell ⟨B, 0, none⟩ v') B v' T' := by
  have hb : some B ≠ v.ownBlock := fun e => by have := h.own.lt B e.symm; omega
  have h1 : w1.heap[B]? = some (.cells #[v] 32 (0, 0)) := by rw [hg.block B h.lt hb]; exact h.one
  exact ⟨one_setCell h1, ownsRow_setCell_below ho (by simp) _⟩

/-- What the append leaves of block B ahead of the store. -/
theorem Tal.mid {w w1 : World} {B : Nat} {v : Value} {T : List (ByteArray × Int)} (h : Tal w B v T) (hg : w.grownBy w1 v.ownBlock) :
    w1.cell? ⟨B, 0, none⟩ = some v ∧ w1.frozen? ⟨B, 0, none⟩ = false := by
  have hb : some B ≠ v.ownBlock := fun e => by have := h.own.lt B e.symm; omega
  have h1 : w1.heap[B]? = some (.cells #[v] 32 (0, 0)) := by rw [hg.block B h.lt hb]; exact h.one
  exact ⟨cell_of_one h1, free_of_one h1⟩

/-- Below block B nothing has turned. -/
theorem Tal.below {w w1 : World} {B : Nat} {v v' : Value} {T : List (ByteArray × Int)} (h : Tal w B v T) (hg : w.grownBy w1 v.ownBlock) :
    Below B w (w1.setCell ⟨B, 0, none⟩ v') := by
  have hB := h.lt
  refine Below.setCell ((Below.refl B w).grown hg (by omega) (fun k e => ?_)) (Nat.le_refl _) _
  have := h.own.lt k e
  omega

end Go.Proofs.Qxb6000749a.Tally
