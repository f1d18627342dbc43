/-
  A slice of strings that is read: the size guards and zzCloneStrings, by their contracts.
-/
import Derived.Test.Qxb6000749aTallyOf
namespace Go.Proofs.Qxb6000749a.Tally
open Go.RowKit

/-- The slice that begins at a holds the strings ss, in blocks below B. -/
def Strs (w : World) (B : Nat) (a : Option Addr) (ss : List ByteArray) : Prop :=
  ∀ k (_ : k < ss.length), ∃ b off, a = some ⟨b, off, none⟩ ∧ b < B ∧ w.cell? ⟨b, off + k, none⟩ = some (.string ss[k])

theorem Strs.keep {w w' : World} {B : Nat} {a : Option Addr} {ss : List ByteArray} (h : Strs w B a ss) (hb : Below B w w') : Strs w' B a ss := by
  intro k hk
  obtain ⟨b, off, e, hB, hc⟩ := h k hk
  exact ⟨b, off, e, hB, by rw [hb.cell hB]; exact hc⟩

def SomeBool (e : Ending) : Prop := ∃ t, e = .returned (.bool t)
def SomeInt (e : Ending) : Prop := ∃ z, e = .returned (.int .i64 z)

set_option maxHeartbeats 1000000 in
theorem bytes21 (a : Option Addr) (cap B : Nat) (ss : List ByteArray) (w : World) (h : Strs w B a ss) (hm : ss.length ≤ maxLen) :
    Calls Try.prog 21 #[.slice a ss.length cap] w fun e w' => SomeBool e ∧ w' = w := by
  unfold maxLen at hm
  go_enter Try.func21, Try.ntmps21
  go_wp2
  · go_ret
    exact ⟨⟨_, rfl⟩, rfl⟩
  go_loop [3, 4] (fun n i => ∃ (k : Nat) (z : Int), k ≤ ss.length ∧ i = .int .i64 k ∧ n = .int .i64 z) (fun _ i => ss.length - (intOf i).toNat)
  case atStart => exact ⟨0, _, Nat.zero_le _, rfl, rfl⟩
  case round =>
    obtain ⟨k, z, hk, rfl, rfl⟩ := hrel
    by_cases hlt : k < ss.length
    · obtain ⟨b, off, rfl, _, hc⟩ := h k hlt
      go_wp2
      · go_ret
        exact ⟨⟨_, rfl⟩, rfl⟩
      · go_ret
        exact ⟨⟨_, rfl⟩, rfl⟩
      · go_round
        case rel => exact ⟨k + 1, _, by omega, by go_num, rfl⟩
        case measure => simp [intOf]; omega
    · go_wp2
      go_ret
      exact ⟨⟨_, rfl⟩, rfl⟩

set_option maxHeartbeats 1000000 in
theorem bytes28 (a : Option Addr) (cap B : Nat) (ss : List ByteArray) (w : World) (h : Strs w B a ss) (hm : ss.length ≤ maxLen) :
    Calls Try.prog 28 #[.slice a ss.length cap] w fun e w' => SomeBool e ∧ w' = w := by
  unfold maxLen at hm
  go_enter Try.func28, Try.ntmps28
  go_wp2
  · go_ret
    exact ⟨⟨_, rfl⟩, rfl⟩
  go_loop [3, 4] (fun n i => ∃ (k : Nat) (z : Int), k ≤ ss.length ∧ i = .int .i64 k ∧ n = .int .i64 z) (fun _ i => ss.length - (intOf i).toNat)
  case atStart => exact ⟨0, _, Nat.zero_le _, rfl, rfl⟩
  case round =>
    obtain ⟨k, z, hk, rfl, rfl⟩ := hrel
    by_cases hlt : k < ss.length
    · obtain ⟨b, off, rfl, _, hc⟩ := h k hlt
      go_wp2
      · go_ret
        exact ⟨⟨_, rfl⟩, rfl⟩
      · go_ret
        exact ⟨⟨_, rfl⟩, rfl⟩
      · go_round
        case rel => exact ⟨k + 1, _, by omega, by go_num, rfl⟩
        case measure => simp [intOf]; omega
    · go_wp2
      go_ret
      exact ⟨⟨_, rfl⟩, rfl⟩

set_option maxHeartbeats 1000000 in
theorem bytes31 (a : Option Addr) (cap B : Nat) (ss : List ByteArray) (f : ByteArray) (w : World) (h : Strs w B a ss) (hm : ss.length ≤ maxLen) :
    Calls Try.prog 31 #[.slice a ss.length cap, .string f] w fun e w' => SomeBool e ∧ w' = w := by
  unfold maxLen at hm
  go_enter Try.func31, Try.ntmps31
  go_wp2
  · go_ret
    exact ⟨⟨_, rfl⟩, rfl⟩
  go_loop [5, 6] (fun n i => ∃ (k : Nat) (z : Int), k ≤ ss.length ∧ i = .int .i64 k ∧ n = .int .i64 z) (fun _ i => ss.length - (intOf i).toNat)
  case atStart => exact ⟨0, _, Nat.zero_le _, rfl, rfl⟩
  case round =>
    obtain ⟨k, z, hk, rfl, rfl⟩ := hrel
    by_cases hlt : k < ss.length
    · obtain ⟨b, off, rfl, _, hc⟩ := h k hlt
      go_wp2
      · go_ret
        exact ⟨⟨_, rfl⟩, rfl⟩
      · go_ret
        exact ⟨⟨_, rfl⟩, rfl⟩
      · go_round
        case rel => exact ⟨k + 1, _, by omega, by go_num, rfl⟩
        case measure => simp [intOf]; omega
    · go_wp2
      all_goals (go_ret; exact ⟨⟨_, rfl⟩, rfl⟩)

set_option maxHeartbeats 1000000 in
theorem bytes22 (a : Option Addr) (cap B : Nat) (ss : List ByteArray) (w : World) (h : Strs w B a ss) (hm : ss.length ≤ 4096) :
    Calls Try.prog 22 #[.slice a ss.length cap] w fun e w' => SomeInt e ∧ w' = w := by
  go_enter Try.func22, Try.ntmps22
  go_wp2
  go_loop [3, 4] (fun n i => ∃ (k : Nat) (z : Int), k ≤ ss.length ∧ i = .int .i64 k ∧ n = .int .i64 z) (fun _ i => ss.length - (intOf i).toNat)
  case atStart => exact ⟨0, _, Nat.zero_le _, rfl, rfl⟩
  case round =>
    obtain ⟨k, z, hk, rfl, rfl⟩ := hrel
    by_cases hlt : k < ss.length
    · obtain ⟨b, off, rfl, _, hc⟩ := h k hlt
      go_wp2
      go_round
      case rel => exact ⟨k + 1, _, by omega, by go_num, rfl⟩
      case measure => simp [intOf]; omega
    · go_wp2
      go_ret
      exact ⟨⟨_, rfl⟩, rfl⟩

/-- What zzCloneStrings hands back: a slice of the same strings; nothing old has turned. -/
def Cloned (w : World) (ss : List ByteArray) (e : Ending) (w' : World) : Prop :=
  ∃ a cap, e = .returned (.slice a ss.length cap) ∧ Strs w' w'.heap.size a ss ∧ Below w.heap.size w w'

set_option maxHeartbeats 1000000 in
theorem clone_nil (w : World) : Calls Try.prog 23 #[.slice none 0 0] w fun e w' => Cloned w [] e w' := by
  have hq := fun (wx : World) (a : Option Addr) (n c : Nat) => Lib.run_eql_slice_nil (P := Try.prog) wx 27 9 a n c 0 0 Try.underlying27
  go_enter Try.func23, Try.ntmps23
  go_wp2
  go_ret
  exact ⟨none, 0, rfl, fun k hk => absurd hk (by simp), Below.refl _ _⟩

/-- The clone's state at round k. -/
structure Mid (w : World) (ss : List ByteArray) (k : Nat) (wr : World) : Prop where
  own : ∃ xs, wr.ownsRow w.heap.size 9 1 (.slice (some ⟨w.heap.size, 0, none⟩) ss.length ss.length) ss.length xs ∧ ∀ j (_ : j < k) (h : j < ss.length), xs[j]? = some (.string ss[j])
  below : Below w.heap.size w wr
  more : w.heap.size < wr.heap.size

theorem Mid.step {w wr : World} {ss : List ByteArray} {k : Nat} (h : Mid w ss k wr) (hk : k < ss.length) : Mid w ss (k + 1) (wr.setCell ⟨w.heap.size, k, none⟩ (.string ss[k])) := by
  obtain ⟨⟨xs, ho, hx⟩, hb, hm⟩ := h
  have hl : xs.length = ss.length := by simpa using ho.1
  refine ⟨⟨xs.set k (.string ss[k]), (ho.stored k _).1, fun j hj hjl => ?_⟩, hb.setCell (Nat.le_refl _) _, by simpa using hm⟩
  by_cases e : j = k
  · subst e
    rw [List.getElem?_set_self (by omega)]
  · rw [List.getElem?_set_ne (fun q => e q.symm)]
    exact hx j (by omega) hjl

theorem Mid.cell {w wr : World} {ss : List ByteArray} {k : Nat} (h : Mid w ss k wr) (hk : k < ss.length) : ∃ v, wr.cell? ⟨w.heap.size, k, none⟩ = some v := by
  obtain ⟨⟨xs, ho, hx⟩, hb, hm⟩ := h
  have hl : xs.length = ss.length := by simpa using ho.1
  rw [ho.cellAt k (by omega)]
  exact ⟨xs[k], by rw [List.getElem?_eq_getElem (by omega)]⟩

theorem Mid.free {w wr : World} {ss : List ByteArray} {k : Nat} (h : Mid w ss k wr) (j : Nat) : wr.frozen? ⟨w.heap.size, j, none⟩ = false := by
  obtain ⟨⟨xs, ho, hx⟩, hb, hm⟩ := h
  exact ho.frozenAt j

theorem Mid.done {w wr : World} {ss : List ByteArray} {k : Nat} (h : Mid w ss k wr) (hk : ss.length ≤ k) : Cloned w ss (.returned (.slice (some ⟨w.heap.size, 0, none⟩) ss.length ss.length)) wr := by
  obtain ⟨⟨xs, ho, hx⟩, hb, hm⟩ := h
  refine ⟨_, _, rfl, fun j hj => ⟨w.heap.size, 0, rfl, hm, ?_⟩, hb⟩
  rw [Nat.zero_add, ho.cellAt j (by omega)]
  exact hx j (by omega) hj

set_option maxHeartbeats 1000000 in
theorem clone_some (x : Addr) (cap : Nat) (ss : List ByteArray) (w : World) (h : Strs w w.heap.size (some x) ss) (hm : ss.length ≤ 4096) :
    Calls Try.prog 23 #[.slice (some x) ss.length cap] w fun e w' => Cloned w ss e w' := by
  have hq := fun (wx : World) (a : Option Addr) (n c : Nat) => Lib.run_eql_slice_nil (P := Try.prog) wx 27 9 a n c 0 0 Try.underlying27
  obtain ⟨i0, hi, hz0, hz1, hz2⟩ := info_parts info9
  go_enter Try.func23, Try.ntmps23
  go_wp2_with (at_make; refine wpList_make_full _ rfl (.tmp 8) (.tmp 8) 27 rfl w.heap.size 9 i0 _ 1 Try.underlying27 hi hz0 hz1 .i64 .i64 _ _ ss.length rfl rfl rfl rfl ?c1 ?c2 ?c3 ?_)
  case c1 => rw [hz2]; omega
  case c2 => unfold maxLen; omega
  case c3 => exact Nat.le_refl _
  · intro w1 hown hgrow
    have hmid : Mid w ss 0 w1 := ⟨⟨_, hown, fun j hj => absurd hj (by omega)⟩, (Below.refl _ _).grown hgrow (Nat.le_refl _) (fun k e => by cases e), (hown.lt _ rfl).2⟩
    clear hown hgrow
    go_wp2
    go_loopw [4] (fun i wr => ∃ k : Nat, k ≤ ss.length ∧ i = .int .i64 k ∧ Mid w ss k wr) (fun i _ => ss.length - (intOf i).toNat)
    case atStart => exact ⟨0, Nat.zero_le _, rfl, hmid⟩
    case round =>
      obtain ⟨k, hk, rfl, hM⟩ := hrel
      by_cases hlt : k < ss.length
      · obtain ⟨b, off, e, hbB, hc⟩ := h k hlt
        cases e
        have hcr : wr.cell? ⟨b, off + k, none⟩ = some (.string ss[k]) := by rw [hM.below.cell hbB]; exact hc
        obtain ⟨u, hu⟩ := hM.cell hlt
        have hfr := hM.free k
        have hS := hM.step hlt
        clear hc h hmid hM
        go_wp2
        go_roundw
        case rel => exact ⟨k + 1, by omega, by go_num, hS⟩
        case measure => simp [intOf]; omega
      · go_wp2
        go_ret
        exact hM.done (by omega)

/-- zzCloneStrings, whatever slice of strings came in. -/
theorem clone_any (a : Option Addr) (cap : Nat) (ss : List ByteArray) (w : World) (h : Strs w w.heap.size a ss) (hn : a = none → ss.length = 0 ∧ cap = 0) (hm : ss.length ≤ 4096) :
    Calls Try.prog 23 #[.slice a ss.length cap] w fun e w' => Cloned w ss e w' := by
  cases a with
  | none =>
    obtain ⟨h0, rfl⟩ := hn rfl
    obtain rfl : ss = [] := List.eq_nil_of_length_eq_zero h0
    exact clone_nil w
  | some x => exact clone_some x cap ss w h hm
end Go.Proofs.Qxb6000749a.Tally
