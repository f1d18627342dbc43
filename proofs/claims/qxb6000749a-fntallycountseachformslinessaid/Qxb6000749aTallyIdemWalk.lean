/-
  FnTallyOfIsIdempotent: the walk.
-/
import Derived.Test.Qxb6000749aTallyStrs
import Derived.Lib.Builder
namespace Go.Proofs.Qxb6000749a.Tally
open Go.RowKit

/-- A fresh tally. -/
theorem Tal.fresh (w : World) : Tal (w.alloc (.cells #[.slice none 0 0] 32)) w.heap.size (.slice none 0 0) (build []) :=
  ⟨heap_alloc_new w _, World.ownsRow_nil _ _ _ _⟩

theorem take_next {ss : List ByteArray} {k : Nat} (hk : k < ss.length) : ss.take (k + 1) = ss.take k ++ [ss[k]] := List.take_succ_eq_append_getElem hk

theorem build_next {ss : List ByteArray} {k : Nat} (hk : k < ss.length) : build (ss.take (k + 1)) = put ss[k] (build (ss.take k)) := by rw [take_next hk, build_snoc]

theorem build_small {ss : List ByteArray} (k : Nat) (hm : ss.length ≤ 4096) : (build (ss.take k)).length ≤ 8192 := by
  have := build_length_le (ss.take k) ss.length (by simp; omega)
  omega

/-- Is form f among these? -/
def isIn (f : ByteArray) (l : List ByteArray) : Bool := l.any fun g => decide (g = f)

theorem isIn_iff (f : ByteArray) (l : List ByteArray) : isIn f l = true ↔ f ∈ l := by
  simp [isIn]

theorem isIn_hit {f : ByteArray} {ss : List ByteArray} {k : Nat} (hk : k < ss.length) (h : (ss[k].toList == f.toList) = true) : isIn f (ss.take (k + 1)) = true := by
  have e := same_bytes h
  rw [take_next hk, e, isIn_iff]
  simp

theorem isIn_miss {f : ByteArray} {ss : List ByteArray} {k : Nat} (hk : k < ss.length) (h : (ss[k].toList == f.toList) = false) : isIn f (ss.take (k + 1)) = isIn f (ss.take k) := by
  have e : ¬ ss[k] = f := other_bytes h
  unfold isIn
  rw [take_next hk, List.any_append]
  simp only [List.any_cons, List.any_nil, e, decide_false, Bool.or_false]

set_option maxHeartbeats 2000000 in
theorem idem_walk (a0 : Option Addr) (cap0 : Nat) (ss : List ByteArray) (f : ByteArray) (w : World) (h : Strs w w.heap.size a0 ss) (hn : a0 = none → ss.length = 0 ∧ cap0 = 0) (hm : ss.length ≤ maxLen) (hf : f.size ≤ maxLen) :
    Calls Try.prog 10 #[.slice a0 ss.length cap0, .string f] w fun e w' => e = .returned (.bool true) ∧ Below w.heap.size w w' := by
  obtain ⟨i52, hi52, _, _, _⟩ := info_parts info52
  have hne := fun (wx : World) (a : Addr) => Lib.run_neq_ptr_same (P := Try.prog) wx a Try.underlying33 hi52
  have HN : Hid (a0 = none → ss.length = 0 ∧ cap0 = 0) := hn
  clear hn
  go_enter Try.func10, Try.ntmps10
  go_wp2_with fail
  refine (bytes31 a0 cap0 _ ss f _ h hm).mono ?_
  rintro e w' ⟨⟨t, rfl⟩, rfl⟩
  unfold maxLen at hm hf
  cases t
  · go_wp2
    go_ret
    exact ⟨rfl, Below.refl _ _⟩
  by_cases l0 : 4096 < ss.length
  · go_wp2
    go_ret
    exact ⟨rfl, Below.refl _ _⟩
  have l0' : ss.length ≤ 4096 := by omega
  go_wp2_with fail
  refine (bytes22 a0 cap0 _ ss _ h l0').mono ?_
  rintro e w2 ⟨⟨z, rfl⟩, rfl⟩
  by_cases l1 : 1048576 < z
  · go_wp2
    go_ret
    exact ⟨rfl, Below.refl _ _⟩
  by_cases l2 : 1048576 < f.size
  · go_wp2
    go_ret
    exact ⟨rfl, Below.refl _ _⟩
  go_wp2_with fail
  refine (clone_any a0 cap0 ss _ h HN.out l0').mono ?_
  rintro e w1 ⟨a, cap, rfl, hS, hb⟩
  go_wp2_with fail
  clear h HN l0 l1 l2 hm hf
  have hS2 : Strs (w1.alloc (.cells #[.slice none 0 0] 32)) w1.heap.size a ss := hS.keep ((Below.refl _ _).alloc (Nat.le_refl _) _)
  have hb2 : Below w2.heap.size w2 (w1.alloc (.cells #[.slice none 0 0] 32)) := hb.alloc hb.size _
  have hT2 := Tal.fresh w1
  have hsz : w2.heap.size ≤ w1.heap.size := hb.size
  obtain ⟨B, hB⟩ : ∃ B, B = w1.heap.size := ⟨_, rfl⟩
  rw [← hB] at hS2 hT2 hsz
  rw [← hB]
  obtain ⟨ws, hws⟩ : ∃ ws, ws = w1.alloc (.cells #[.slice none 0 0] 32) := ⟨_, rfl⟩
  rw [← hws] at hS2 hT2 hb2
  rw [← hws]
  clear hws hS hb hB
  go_loopw [6] (fun i wr => ∃ (k : Nat) (v : Value), k ≤ ss.length ∧ i = .int .i64 k ∧ Tal wr B v (build (ss.take k)) ∧ Below B ws wr) (fun i _ => ss.length - (intOf i).toNat)
  case atStart => exact ⟨0, _, Nat.zero_le _, rfl, hT2, Below.refl _ _⟩
  case round =>
    obtain ⟨k, v, hk, rfl, hT, hbr⟩ := hrel
    by_cases hlt : k < ss.length
    · obtain ⟨b, off, rfl, hbB, hc⟩ := (hS2.keep hbr) k hlt
      go_wp2_with fail
      refine (tallyOf_any B v (build (ss.take k)) ss[k] _ hT (build_small k l0')).mono ?_
      rintro e w3 ⟨g, cap3, rfl, hT3, hb3⟩
      rw [← build_next hlt] at hT3
      go_wp2
      go_roundw
      case rel => exact ⟨k + 1, _, by omega, by go_num, hT3, hbr.trans hb3⟩
      case measure => simp [intOf]; omega
    · obtain rfl : k = ss.length := by omega
      rw [List.take_length] at hT
      have hBr := hb2.trans (hbr.mono hsz)
      have hSr := hS2.keep hbr
      have hl : (build ss).length ≤ 8192 := by have := build_small ss.length l0'; rwa [List.take_length] at this
      clear hS2 hT2 hbr hb2
      obtain ⟨ao, cp, hv, hao⟩ := hT.shape
      subst hv
      clear hao
      go_wp2_with fail
      refine (tallyLen_any B _ cp ao _ hT.cell).mono ?_
      rintro e w4 ⟨rfl, rfl⟩
      go_wp2_with fail
      go_loop [8, 9] (fun p i => ∃ k : Nat, k ≤ ss.length ∧ i = .int .i64 k ∧ p = .bool (isIn f (ss.take k))) (fun _ i => ss.length - (intOf i).toNat)
      case atStart => exact ⟨0, Nat.zero_le _, rfl, rfl⟩
      case round =>
        obtain ⟨k, hk, rfl, rfl⟩ := hrel
        by_cases hlt : k < ss.length
        · obtain ⟨b, off, rfl, hbB, hc⟩ := hSr k hlt
          clear hT hBr hSr
          go_wp2
          · go_round
            case rel => exact ⟨k + 1, by omega, by go_num, by rw [isIn_hit hlt (by assumption)]⟩
            case measure => simp [intOf]; omega
          · go_round
            case rel => exact ⟨k + 1, by omega, by go_num, by rw [isIn_miss hlt (by assumption)]⟩
            case measure => simp [intOf]; omega
        · obtain rfl : k = ss.length := by omega
          rw [List.take_length]
          go_wp2_with fail
          refine (tallyOf_any B _ (build ss) f _ hT hl).mono ?_
          rintro e w5 ⟨g, cap5, rfl, hT5, hb5⟩
          have hl5 : (put f (build ss)).length ≤ 8192 := by
            have := put_length_le f (build ss)
            have := build_length_le ss ss.length (Nat.le_refl _)
            omega
          have hB5 := hBr.trans (hb5.mono hsz)
          have hent : w5.cell? ⟨g, pos f (build ss) * 5, none⟩ = some (.string f) := by
            have := hT5.form (pos_put_lt f (build ss))
            rw [pos_form (pos_put_lt f (build ss)), pos_put] at this
            exact this
          clear hT hBr hSr hb5
          go_wp2_with fail
          refine (tallyLen_any B _ cap5 _ _ hT5.cell).mono ?_
          rintro e w6 ⟨rfl, rfl⟩
          go_wp2_with fail
          refine (tallyOf_hit B g cap5 (put f (build ss)) f _ hT5 hl5 (pos_put_lt f (build ss))).mono ?_
          rintro e w7 ⟨rfl, rfl⟩
          rw [pos_put]
          go_wp2_with fail
          refine (tallyLen_any B _ cap5 _ _ hT5.cell).mono ?_
          rintro e w8 ⟨rfl, rfl⟩
          by_cases hin : f ∈ ss
          · have hp := (build_pos ss f).2 hin
            have hin' : isIn f ss = true := (isIn_iff f ss).2 hin
            rw [put_old hp]
            clear hT5 hl5
            go_wp2_with fail
            refine (formOf_any g _ f _ hent).mono ?_
            rintro e w9 ⟨rfl, rfl⟩
            go_wp2
            go_ret
            exact ⟨rfl, hB5⟩
          · have hp : ¬ pos f (build ss) < (build ss).length := fun q => hin ((build_pos ss f).1 q)
            have hin' : isIn f ss = false := by cases q : isIn f ss; rfl; exact absurd ((isIn_iff f ss).1 q) hin
            rw [put_new hp]
            clear hT5 hl5
            go_wp2_with fail
            refine (formOf_any g _ f _ hent).mono ?_
            rintro e w9 ⟨rfl, rfl⟩
            go_wp2
            go_ret
            exact ⟨by simp, hB5⟩
end Go.Proofs.Qxb6000749a.Tally
