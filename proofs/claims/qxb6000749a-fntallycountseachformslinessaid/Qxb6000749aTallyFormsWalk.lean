/-
  FnTallyKeepsDistinctFormsInFirstOrder: the walk.
-/
import Derived.Test.Qxb6000749aTallyIdemWalk
namespace Go.Proofs.Qxb6000749a.Tally
open Go.RowKit

theorem build_more (l r : List ByteArray) : ∃ R, build (l ++ r) = build l ++ R := by
  suffices ∀ r : List ByteArray, ∃ R, build (l ++ r.reverse) = build l ++ R by
    have := this r.reverse
    simpa using this
  intro r
  induction r with
  | nil => exact ⟨[], by simp⟩
  | cons f r ih =>
    obtain ⟨R, hR⟩ := ih
    rw [List.reverse_cons, ← List.append_assoc, build_snoc, hR]
    by_cases h : pos f (build l ++ R) < (build l ++ R).length
    · exact ⟨R, put_old h⟩
    · exact ⟨R ++ [(f, 0)], by rw [put_new h, List.append_assoc]⟩

theorem build_take (ss : List ByteArray) (k : Nat) : ∃ R, build ss = build (ss.take k) ++ R := by
  have := build_more (ss.take k) (ss.drop k)
  rwa [List.take_append_drop] at this

/-- A form met before adds nothing. -/
theorem build_seen {ss : List ByteArray} {k : Nat} (hk : k < ss.length) (h : ss[k] ∈ ss.take k) : build (ss.take (k + 1)) = build (ss.take k) := by
  rw [build_next hk, put_old ((build_pos _ _).2 h)]

/-- A new form is the next entry of the whole tally. -/
theorem build_unseen {ss : List ByteArray} {k : Nat} (hk : k < ss.length) (h : ¬ ss[k] ∈ ss.take k) :
    (build (ss.take (k + 1))).length = (build (ss.take k)).length + 1 ∧ ∃ hl : (build (ss.take k)).length < (build ss).length, (build ss)[(build (ss.take k)).length].1 = ss[k] := by
  have e : build (ss.take (k + 1)) = build (ss.take k) ++ [(ss[k], 0)] := by
    rw [build_next hk, put_new (fun q => h ((build_pos _ _).1 q))]
  refine ⟨by rw [e]; simp, ?_⟩
  obtain ⟨R, hR⟩ := build_take ss (k + 1)
  rw [e] at hR
  have hl : (build (ss.take k)).length < (build ss).length := by rw [hR]; simp
  refine ⟨hl, ?_⟩
  simp [hR]

theorem Strs.all {w : World} {B : Nat} {a : Option Addr} {ss : List ByteArray} (h : Strs w B a ss) {k : Nat} (hk : k < ss.length) :
    ∃ b off, a = some ⟨b, off, none⟩ ∧ b < B ∧ ∀ j (_ : j < ss.length), w.cell? ⟨b, off + j, none⟩ = some (.string ss[j]) := by
  obtain ⟨b, off, rfl, hb, _⟩ := h k hk
  refine ⟨b, off, rfl, hb, fun j hj => ?_⟩
  obtain ⟨b', off', e, _, hc⟩ := h j hj
  cases e
  exact hc

theorem seen_hit {ss : List ByteArray} {j k : Nat} (hk : k < ss.length) (hj : j < k) (h : (ss[j].toList == ss[k].toList) = true) : ss[k] ∈ ss.take k := by
  have e := same_bytes h
  rw [← e]
  exact List.mem_take_iff_getElem.2 ⟨j, by omega, rfl⟩

theorem seen_end {ss : List ByteArray} {k : Nat} (hk : k < ss.length) (h : ∀ j (hj : j < k), ¬ ss[j] = ss[k]) : ¬ ss[k] ∈ ss.take k := by
  intro hm
  obtain ⟨j, hj, e⟩ := List.mem_take_iff_getElem.1 hm
  exact h j (by omega) e

set_option maxHeartbeats 4000000 in
theorem forms_walk (a0 : Option Addr) (cap0 : Nat) (ss : List ByteArray) (w : World) (h : Strs w w.heap.size a0 ss) (hn : a0 = none → ss.length = 0 ∧ cap0 = 0) (hm : ss.length ≤ maxLen) :
    Calls Try.prog 8 #[.slice a0 ss.length cap0] w fun e w' => e = .returned (.bool true) ∧ Below w.heap.size w w' := by
  have HN : Hid (a0 = none → ss.length = 0 ∧ cap0 = 0) := hn
  clear hn
  go_enter Try.func8, Try.ntmps8
  go_wp2_with fail
  refine (bytes21 a0 cap0 _ ss _ h hm).mono ?_
  rintro e w' ⟨⟨t, rfl⟩, rfl⟩
  unfold maxLen at hm
  cases t
  · go_wp2
    go_ret
    exact ⟨rfl, Below.refl _ _⟩
  by_cases l0 : 4096 < ss.length
  · go_wp2
    go_ret
    exact ⟨rfl, Below.refl _ _⟩
  have l0' : ss.length ≤ 4096 := by omega
  go_wp2_with fail
  refine (bytes22 a0 cap0 _ ss _ h l0').mono ?_
  rintro e w2 ⟨⟨z, rfl⟩, rfl⟩
  by_cases l1 : 1048576 < z
  · go_wp2
    go_ret
    exact ⟨rfl, Below.refl _ _⟩
  go_wp2_with fail
  refine (clone_any a0 cap0 ss _ h HN.out l0').mono ?_
  rintro e w1 ⟨a, cap, rfl, hS, hb⟩
  go_wp2_with fail
  clear h HN l0 l1 hm
  have hS2 : Strs (w1.alloc (.cells #[.slice none 0 0] 32)) w1.heap.size a ss := hS.keep ((Below.refl _ _).alloc (Nat.le_refl _) _)
  have hb2 : Below w2.heap.size w2 (w1.alloc (.cells #[.slice none 0 0] 32)) := hb.alloc hb.size _
  have hT2 := Tal.fresh w1
  have hsz : w2.heap.size ≤ w1.heap.size := hb.size
  obtain ⟨B, hB⟩ : ∃ B, B = w1.heap.size := ⟨_, rfl⟩
  rw [← hB] at hS2 hT2 hsz
  rw [← hB]
  obtain ⟨ws, hws⟩ : ∃ ws, ws = w1.alloc (.cells #[.slice none 0 0] 32) := ⟨_, rfl⟩
  rw [← hws] at hS2 hT2 hb2
  rw [← hws]
  clear hws hS hb hB
  go_loopw [4] (fun i wr => ∃ (k : Nat) (v : Value), k ≤ ss.length ∧ i = .int .i64 k ∧ Tal wr B v (build (ss.take k)) ∧ Below B ws wr) (fun i _ => ss.length - (intOf i).toNat)
  case atStart => exact ⟨0, _, Nat.zero_le _, rfl, hT2, Below.refl _ _⟩
  case round =>
    obtain ⟨k, v, hk, rfl, hT, hbr⟩ := hrel
    by_cases hlt : k < ss.length
    · obtain ⟨b, off, rfl, hbB, hc⟩ := (hS2.keep hbr) k hlt
      go_wp2_with fail
      refine (tallyOf_any B v (build (ss.take k)) ss[k] _ hT (build_small k l0')).mono ?_
      rintro e w3 ⟨g, cap3, rfl, hT3, hb3⟩
      have hc3 : w3.cell? ⟨b, off + k, none⟩ = some (.string ss[k]) := by rw [hb3.cell hbB]; exact hc
      have hent : w3.cell? ⟨g, pos ss[k] (build (ss.take k)) * 5, none⟩ = some (.string ss[k]) := by
        have := hT3.form (pos_put_lt ss[k] (build (ss.take k)))
        rw [pos_form (pos_put_lt _ _), pos_put] at this
        exact this
      rw [← build_next hlt] at hT3
      have hbr3 := hbr.trans hb3
      have hk1 : (k : Int) < (ss.length : Int) := by omega
      have hk0 : (0 : Int) ≤ (k : Int) := by omega
      clear hT hbr hb3 hc hT2 hb2 hS2
      go_wp2_with fail
      go_quiet ((go_at_call 25; refine Calls.quiet_of_same (formOf_any _ _ ss[k] _ ?_); exact hent))
      go_wp2
      go_roundw
      case rel => exact ⟨k + 1, _, by omega, by go_num, hT3.drewN nq, below_drewN hbr3 nq⟩
      case measure => simp [intOf]; omega
    · obtain rfl : k = ss.length := by omega
      rw [List.take_length] at hT
      have hBr := hb2.trans (hbr.mono hsz)
      have hSr := hS2.keep hbr
      clear hS2 hT2 hbr hb2
      obtain ⟨W, hWW⟩ : ∃ W, W = wr := ⟨_, rfl⟩
      subst hWW
      obtain ⟨ao, cp, hv, hao⟩ := hT.shape
      subst hv
      have hlen : (build ss).length ≤ 8192 := by have := build_length_le ss 4096 l0'; omega
      go_wp2_with fail
      refine (tallyLen_any B _ cp ao _ hT.cell).mono ?_
      rintro e w4 ⟨rfl, rfl⟩
      go_wp2_with fail
      go_loopw [7, 8] (fun n i wr => ∃ (k q : Nat), k ≤ ss.length ∧ i = .int .i64 k ∧ n = .int .i64 (build (ss.take k)).length ∧ wr = w4.drewN q) (fun _ i _ => ss.length - (intOf i).toNat)
      case atStart => exact ⟨0, 0, Nat.zero_le _, rfl, rfl, rfl⟩
      case round =>
        obtain ⟨k, q, hk, rfl, rfl, rfl⟩ := hrel
        by_cases hlt : k < ss.length
        · obtain ⟨b, off, rfl, hbB, hcs⟩ := hSr.all hlt
          have hck := hcs k hlt
          have hk1 : (k : Int) < (ss.length : Int) := by omega
          have hk0 : (0 : Int) ≤ (k : Int) := by omega
          have HCS : Hid (∀ j (_ : j < ss.length), w4.cell? ⟨b, off + j, none⟩ = some (.string ss[j])) := hcs
          have HAO : Hid (∀ k, k < (build ss).length → ∃ g, ao = some ⟨g, 0, none⟩) := hao
          clear hcs hSr hao
          go_wp2_with fail
          go_loopw [9, 10] (fun p i wr => ∃ (j r : Nat), j ≤ k ∧ i = .int .i64 j ∧ p = .bool false ∧ wr = w4.drewN r ∧ Hid (∀ x (hx : x < j) (hxl : x < ss.length), ¬ ss[x] = ss[k])) (fun _ i _ => k - (intOf i).toNat)
          case atStart => exact ⟨0, q, Nat.zero_le _, rfl, rfl, rfl, fun x hx => absurd hx (by omega)⟩
          case round =>
            obtain ⟨j, r, hj, rfl, rfl, rfl, HX⟩ := hrel
            by_cases hjk : j < k
            · have hcj := HCS.out j (by omega)
              have hj1 : (j : Int) < (ss.length : Int) := by omega
              have hj0 : (0 : Int) ≤ (j : Int) := by omega
              have hjl : j < ss.length := by omega
              have hjk' : (j : Int) < (k : Int) := by omega
              go_wp2_with fail
              go_quiet (fail)
              go_wp2_with fail
              · go_roundw
                case rel => exact ⟨k + 1, _, by omega, by go_num, by rw [build_seen hlt (seen_hit hlt hjk (by assumption))], rfl⟩
                case measure => simp [intOf]; omega
              · have hmiss : ¬ ss[j] = ss[k] := other_bytes (by assumption)
                go_roundw
                case rel => exact ⟨j + 1, _, by omega, by go_num, rfl, rfl, fun x hx hxl => by by_cases e : x = j; (subst e; exact hmiss); exact HX.out x (by omega) hxl⟩
                case measure => simp [intOf]; omega
            · have hun := build_unseen hlt (seen_end hlt (fun x hx => HX.out x (by omega) (by omega)))
              obtain ⟨hnext, hn1, hform⟩ := hun
              obtain ⟨g, rfl⟩ := HAO.out _ hn1
              have hcB := hT.cell
              have hent : w4.cell? ⟨g, (build (ss.take k)).length * 5, none⟩ = some (.string ss[k]) := by rw [hT.form hn1, hform]
              have HNX : Hid ((build (ss.take (k + 1))).length = (build (ss.take k)).length + 1) := hnext
              have hn2 : ((build (ss.take k)).length : Int) < ((build ss).length : Int) := by omega
              obtain ⟨W5, hW5⟩ : ∃ W5, W5 = w4.drewN r := ⟨_, rfl⟩
              have hcB5 : W5.cell? ⟨B, 0, none⟩ = some (.slice (some ⟨g, 0, none⟩) (build ss).length cp) := by rw [hW5]; exact hcB
              have hent5 : W5.cell? ⟨g, (build (ss.take k)).length * 5, none⟩ = some (.string ss[k]) := by rw [hW5]; exact hent
              have hck5 : W5.cell? ⟨b, off + k, none⟩ = some (.string ss[k]) := by rw [hW5]; exact hck
              have HW : Hid (∀ x, W5.drewN x = w4.drewN (r + x)) := fun x => by rw [hW5]; simp
              rw [← hW5]
              clear hnext hform HX hcB hent hck hW5
              go_wp2_with fail
              go_quiet ((first | (go_at_call 27; refine Calls.quiet_of_same (tallyAt_any B g (build ss).length cp (build (ss.take k)).length _ ?_ hn1); exact hcB5) | (go_at_call 25; refine Calls.quiet_of_same (formOf_any _ _ ss[k] _ ?_); exact hent5)))
              go_wp2
              go_roundw
              case rel => exact ⟨k + 1, _, by omega, by go_num, by rw [HNX.out]; go_num, HW.out _⟩
              case measure => simp [intOf]; omega
        · obtain rfl : k = ss.length := by omega
          rw [List.take_length]
          go_wp2
          go_ret
          exact ⟨by simp, below_drewN hBr q⟩
end Go.Proofs.Qxb6000749a.Tally
