/-
  FnTallyCountsEachFormsLines: the walk.
-/
import Derived.Test.Qxb6000749aTallyFormsWalk
import Derived.Test.Qxb6000749aTallyCounts
namespace Go.Proofs.Qxb6000749a.Tally
open Go.RowKit

/-- The tally that counts the first k forms lies in the world. -/
def Book (w : World) (B : Nat) (ss : List ByteArray) (k : Nat) (v : Value) (T : List (ByteArray × Int)) : Prop := Tal w B v T ∧ Good (ss.take k) T ∧ T.length ≤ k

/-- What ZZBump does behind ZZTallyOf. -/
theorem Book.bump {w w3 : World} {B g cap k : Nat} {ss : List ByteArray} {v : Value} {T : List (ByteArray × Int)} (h : Book w B ss k v T) (hk : k < ss.length)
    (h3 : Tal w3 B (.slice (some ⟨g, 0, none⟩) (put ss[k] T).length cap) (put ss[k] T)) :
    ∃ c : Int, w3.cell? ⟨g, pos ss[k] T * 5 + 2, none⟩ = some (.int .i64 c) ∧ w3.frozen? ⟨g, pos ss[k] T * 5 + 2, none⟩ = false ∧ 0 ≤ c ∧ c ≤ k ∧
      (∃ v' T', Book (w3.setCell ⟨g, pos ss[k] T * 5 + 2, none⟩ (.int .i64 (c + 1))) B ss (k + 1) v' T') ∧ Below B w3 (w3.setCell ⟨g, pos ss[k] T * 5 + 2, none⟩ (.int .i64 (c + 1))) := by
  obtain ⟨_, hG, hl⟩ := h
  have hP := pos_put_lt ss[k] T
  have hs := hG.small ss[k]
  have hlk : (ss.take k).length = k := by simp; omega
  rw [hlk] at hs
  have hc := h3.count hP
  have hf := h3.own.frozenAt (pos ss[k] (put ss[k] T) * 5 + 2)
  have hr := h3.recount hP (((put ss[k] T)[pos ss[k] (put ss[k] T)]'hP).2 + 1)
  have hg := hG.step ss[k]
  have hpl := put_length_le ss[k] T
  rw [← take_next hk] at hg
  rw [← pos_put ss[k] T]
  exact ⟨_, hc, hf, hs.1, hs.2, ⟨_, _, hr.1, hg, by rw [List.length_set]; omega⟩, hr.2⟩

theorem occ_hit {g : ByteArray} {ss : List ByteArray} {j : Nat} (hj : j < ss.length) (h : (ss[j].toList == g.toList) = true) : occ g (ss.take (j + 1)) = occ g (ss.take j) + 1 := by
  rw [take_next hj, occ_snoc, if_pos (same_bytes h)]

theorem occ_miss {g : ByteArray} {ss : List ByteArray} {j : Nat} (hj : j < ss.length) (h : (ss[j].toList == g.toList) = false) : occ g (ss.take (j + 1)) = occ g (ss.take j) := by
  rw [take_next hj, occ_snoc, if_neg (other_bytes h)]
  omega

set_option maxHeartbeats 4000000 in
theorem counts_walk (a0 : Option Addr) (cap0 : Nat) (ss : List ByteArray) (w : World) (h : Strs w w.heap.size a0 ss) (hn : a0 = none → ss.length = 0 ∧ cap0 = 0) (hm : ss.length ≤ maxLen) :
    Calls Try.prog 9 #[.slice a0 ss.length cap0] w fun e w' => e = .returned (.bool true) ∧ Below w.heap.size w w' := by
  have HN : Hid (a0 = none → ss.length = 0 ∧ cap0 = 0) := hn
  clear hn
  go_enter Try.func9, Try.ntmps9
  go_wp2_with fail
  refine (bytes28 a0 cap0 _ ss _ h hm).mono ?_
  rintro e w' ⟨⟨t, rfl⟩, rfl⟩
  unfold maxLen at hm
  cases t
  · go_wp2
    go_ret
    exact ⟨rfl, Below.refl _ _⟩
  by_cases l0 : 4096 < ss.length
  · go_wp2
    go_ret
    exact ⟨rfl, Below.refl _ _⟩
  have l0' : ss.length ≤ 4096 := by omega
  go_wp2_with fail
  refine (bytes22 a0 cap0 _ ss _ h l0').mono ?_
  rintro e w2 ⟨⟨z, rfl⟩, rfl⟩
  by_cases l1 : 1048576 < z
  · go_wp2
    go_ret
    exact ⟨rfl, Below.refl _ _⟩
  go_wp2_with fail
  refine (clone_any a0 cap0 ss _ h HN.out l0').mono ?_
  rintro e w1 ⟨a, cap, rfl, hS, hb⟩
  go_wp2_with fail
  clear h HN l0 l1 hm
  have hS2 : Strs (w1.alloc (.cells #[.slice none 0 0] 32)) w1.heap.size a ss := hS.keep ((Below.refl _ _).alloc (Nat.le_refl _) _)
  have hb2 : Below w2.heap.size w2 (w1.alloc (.cells #[.slice none 0 0] 32)) := hb.alloc hb.size _
  have hT2 : Tal _ _ _ [] := Tal.fresh w1
  have hsz : w2.heap.size ≤ w1.heap.size := hb.size
  obtain ⟨B, hB⟩ : ∃ B, B = w1.heap.size := ⟨_, rfl⟩
  rw [← hB] at hS2 hT2 hsz
  rw [← hB]
  obtain ⟨ws, hws⟩ : ∃ ws, ws = w1.alloc (.cells #[.slice none 0 0] 32) := ⟨_, rfl⟩
  rw [← hws] at hS2 hT2 hb2
  rw [← hws]
  clear hws hS hb hB
  go_loopw [4] (fun i wr => ∃ (k : Nat) (v : Value) (T : List (ByteArray × Int)), k ≤ ss.length ∧ i = .int .i64 k ∧ Book wr B ss k v T ∧ Below B ws wr) (fun i _ => ss.length - (intOf i).toNat)
  case atStart => exact ⟨0, _, [], Nat.zero_le _, rfl, ⟨hT2, Good.nil, Nat.le_refl _⟩, Below.refl _ _⟩
  case round =>
    obtain ⟨k, v, T, hk, rfl, hBk, hbr⟩ := hrel
    by_cases hlt : k < ss.length
    · obtain ⟨b, off, rfl, hbB, hc⟩ := (hS2.keep hbr) k hlt
      have hTl : T.length ≤ 8192 := by have := hBk.2.2; omega
      go_wp2_with fail
      refine (tallyOf_any B v T ss[k] _ hBk.1 hTl).mono ?_
      rintro e w3 ⟨g, cap3, rfl, hT3, hb3⟩
      obtain ⟨c, hcc, hcf, hc0, hc1, ⟨v', T', hB'⟩, hbb⟩ := hBk.bump hlt hT3
      have hc2 : c ≤ 8192 := by omega
      have hbr3 := (hbr.trans hb3).trans hbb
      clear hT2 hb2 hS2 hBk hT3 hbr hb3 hc hbb
      go_wp2_with fail
      refine (bump_any g _ c _ hcc hcf hc0 hc2).mono ?_
      rintro e w4 ⟨rfl, rfl⟩
      go_wp2
      go_roundw
      case rel => exact ⟨k + 1, _, _, by omega, by go_num, hB', hbr3⟩
      case measure => simp [intOf]; omega
    · obtain rfl : k = ss.length := by omega
      obtain ⟨hT, hG, hTl⟩ := hBk
      rw [List.take_length] at hG
      have hBr := hb2.trans (hbr.mono hsz)
      have hSr := hS2.keep hbr
      have HG : Hid (Good ss T) := hG
      clear hS2 hT2 hbr hb2 hG
      obtain ⟨ao, cp, hv, hao⟩ := hT.shape
      subst hv
      go_wp2_with fail
      refine (tallyLen_any B _ cp ao _ hT.cell).mono ?_
      rintro e w4 ⟨rfl, rfl⟩
      go_wp2_with fail
      go_loop [7, 8] (fun t i => ∃ m : Nat, m ≤ T.length ∧ i = .int .i64 m ∧ t = .int .i64 (sum (T.take m))) (fun _ i => T.length - (intOf i).toNat)
      case atStart => exact ⟨0, Nat.zero_le _, rfl, rfl⟩
      case round =>
        obtain ⟨m, hm, rfl, rfl⟩ := hrel
        have hs0 := (HG.out.total m).1
        have hs1 := (HG.out.total m).2
        by_cases hlt : m < T.length
        · obtain ⟨g, rfl⟩ := hao m hlt
          have hform := hT.form hlt
          have hcount := hT.count hlt
          have hcB := hT.cell
          rw [HG.out.cnt m hlt] at hcount
          have HN : Hid (sum (T.take (m + 1)) = sum (T.take m) + occ T[m].1 ss) := by
            show sum (T.take (m + 1)) = sum (T.take m) + occ T[m].1 ss
            rw [sum_next hlt, HG.out.cnt m hlt]
          obtain ⟨f, hf⟩ : ∃ f, f = T[m].1 := ⟨_, rfl⟩
          rw [← hf] at hform hcount HN
          clear hf hT hao
          go_wp2_with fail
          refine (tallyAt_any B g T.length cp m _ hcB hlt).mono ?_
          rintro e w5 ⟨rfl, rfl⟩
          go_wp2_with fail
          refine (formOf_any g _ f _ hform).mono ?_
          rintro e w6 ⟨rfl, rfl⟩
          go_wp2_with fail
          go_loop [11, 12] (fun o i => ∃ j : Nat, j ≤ ss.length ∧ i = .int .i64 j ∧ o = .int .i64 (occ f (ss.take j))) (fun _ i => ss.length - (intOf i).toNat)
          case atStart => exact ⟨0, Nat.zero_le _, rfl, rfl⟩
          case round =>
            obtain ⟨j, hj, rfl, rfl⟩ := hrel
            have ho0 := (occ_bounds f (ss.take j)).1
            have ho1 := (occ_bounds f (ss.take j)).2
            have ho2 : ((ss.take j).length : Int) ≤ 4096 := by simp; omega
            have ho3 : occ f (ss.take j) ≤ 4096 := by omega
            clear ho1 ho2
            by_cases hjl : j < ss.length
            · obtain ⟨b, off, rfl, hbB, hc⟩ := hSr j hjl
              clear hSr
              go_wp2
              · go_round
                case rel => exact ⟨j + 1, by omega, by go_num, by rw [occ_hit hjl (by assumption)]⟩
                case measure => simp [intOf]; omega
              · go_round
                case rel => exact ⟨j + 1, by omega, by go_num, by rw [occ_miss hjl (by assumption)]⟩
                case measure => simp [intOf]; omega
            · obtain rfl : j = ss.length := by omega
              rw [List.take_length] at ho0 ho3
              rw [List.take_length]
              go_wp2_with fail
              refine (countOf_any g _ (occ f ss) _ hcount).mono ?_
              rintro e w7 ⟨rfl, rfl⟩
              go_wp2
              go_round
              case rel => exact ⟨m + 1, by omega, by go_num, by rw [HN.out]⟩
              case measure => simp [intOf]; omega
        · obtain rfl : m = T.length := by omega
          rw [List.take_length] at hs0 hs1
          rw [List.take_length, HG.out.tot]
          go_wp2
          go_ret
          exact ⟨by simp, hBr⟩
end Go.Proofs.Qxb6000749a.Tally
