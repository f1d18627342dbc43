/-
  (*legacyTally).of and the small readers, by their contracts.
-/
import Derived.Test.Qxb6000749aTallyMem
namespace Go.Proofs.Qxb6000749a.Tally
open Go.RowKit

theorem same_bytes {a b : ByteArray} (h : (a.toList == b.toList) = true) : a = b := by
  rw [Lib.toList_data, Lib.toList_data] at h
  have h' := eq_of_beq h
  cases a
  cases b
  simp at h'
  rw [h']

theorem other_bytes {a b : ByteArray} (h : (a.toList == b.toList) = false) : ¬ a = b := by
  intro e
  subst e
  simp at h

theorem hit_here {f : ByteArray} {T : List (ByteArray × Int)} {k : Nat} (hk : k < T.length) (hp : k ≤ pos f T) (h : (T[k].1.toList == f.toList) = true) : pos f T = k := by
  have e := same_bytes h
  by_cases q : k < pos f T
  · exact absurd e (pos_before hk q)
  · omega

theorem miss_here {f : ByteArray} {T : List (ByteArray × Int)} {k : Nat} (hk : k < T.length) (hp : k ≤ pos f T) (h : (T[k].1.toList == f.toList) = false) : k + 1 ≤ pos f T := by
  have e := other_bytes h
  by_cases q : pos f T = k
  · subst q
    exact absurd (pos_form hk) e
  · omega

theorem ret_ptr {a b : Addr} (h : a = b) : Ending.returned (.pointer (some a)) = .returned (.pointer (some b)) := by rw [h]

set_option maxHeartbeats 1000000 in
theorem of_hit (B g cap : Nat) (T : List (ByteArray × Int)) (f : ByteArray) (w : World) (h : Tal w B (.slice (some ⟨g, 0, none⟩) T.length cap) T) (hl : T.length ≤ 8192) (hp : pos f T < T.length) :
    Calls Try.prog 34 #[.pointer (some ⟨B, 0, none⟩), .string f] w fun e w' => e = .returned (.pointer (some ⟨g, pos f T * 5, none⟩)) ∧ w' = w := by
  have hc := h.cell
  go_enter Try.func34, Try.ntmps34
  go_wp2
  go_loop [10] (fun i => ∃ k : Nat, k ≤ pos f T ∧ i = .int .i64 k) (fun i => T.length - (intOf i).toNat)
  case atStart => exact ⟨0, Nat.zero_le _, rfl⟩
  case round =>
    obtain ⟨k, hk, rfl⟩ := hrel
    have hkl : k < T.length := by omega
    have he : w.cell? ⟨g, k * 5, none⟩ = some (.string T[k].1) := h.entry hkl 0 (by omega)
    go_wp2
    · go_ret
      exact ⟨ret_ptr (by rw [hit_here hkl hk (by assumption)]), rfl⟩
    · go_round
      case rel => exact ⟨k + 1, miss_here hkl hk (by assumption), by go_num⟩
      case measure => simp [intOf]; omega

set_option maxHeartbeats 1000000 in
theorem of_new (B : Nat) (v : Value) (T : List (ByteArray × Int)) (f : ByteArray) (w : World) (h : Tal w B v T) (hl : T.length ≤ 8192) (hp : ¬ pos f T < T.length) :
    Calls Try.prog 34 #[.pointer (some ⟨B, 0, none⟩), .string f] w fun e w' => ∃ g cap, e = .returned (.pointer (some ⟨g, T.length * 5, none⟩)) ∧
      Tal w' B (.slice (some ⟨g, 0, none⟩) (T.length + 1) cap) (T ++ [(f, 0)]) ∧ Below B w w' := by
  have hc := h.cell
  have hle := pos_le f T
  obtain ⟨ao, cap, rfl, hao⟩ := h.shape
  obtain ⟨i0, hi, hz0, hz1, hz2⟩ := info_parts info52
  go_enter Try.func34, Try.ntmps34
  go_wp2
  go_loop [10] (fun i => ∃ k : Nat, k ≤ pos f T ∧ i = .int .i64 k) (fun i => T.length - (intOf i).toNat)
  case atStart => exact ⟨0, Nat.zero_le _, rfl⟩
  case round =>
    obtain ⟨k, hk, rfl⟩ := hrel
    by_cases hkl : k < T.length
    · obtain ⟨g, rfl⟩ := hao k hkl
      have he : w.cell? ⟨g, k * 5, none⟩ = some (.string T[k].1) := h.entry hkl 0 (by omega)
      go_wp2
      · have := hit_here hkl hk (by assumption)
        omega
      · go_round
        case rel => exact ⟨k + 1, miss_here hkl hk (by assumption), by go_num⟩
        case measure => simp [intOf]; omega
    · have hnk : ¬ k < T.length := hkl
      clear hao
      go_wp2_with (at_builtin; refine wpList_append_own _ rfl (.tmp 31) (.tmp 34) 32 rfl (B + 1) 52 i0 _ 5 64 Try.underlying32 hi hz0 hz1 hz2 rfl (by decide) _ _ _ rfl (h.own.alloc _) ⟨w.heap.size, 0, none⟩ 1 1 (five (f, 0)) rfl rfl ?c1 ?c2 ?c3 ?c4 ?c5 ?_)
      case c1 => intro j u hj; exact hj
      case c2 => intro u hu; simp [five] at hu; rcases hu with rfl | rfl | rfl <;> rfl
      case c3 => unfold maxLen; omega
      case c4 => omega
      case c5 => have := h.lt; omega
      · intro v' w1 hown hgrow _
        obtain ⟨g, cap', rfl⟩ : ∃ g cap', v' = .slice (some ⟨g, 0, none⟩) (T.length + 1) cap' := by
          rcases hown.2 with ⟨_, h0⟩ | ⟨g, cap', cur, e, _⟩
          · omega
          · exact ⟨g, cap', e⟩
        have hA := (h.alloc (.cells #[.string f, .int .i64 0, .int .i64 0, .string ⟨#[]⟩, .string ⟨#[]⟩] 52))
        have hm := hA.mid hgrow
        have hT : Tal (w1.setCell ⟨B, 0, none⟩ (.slice (some ⟨g, 0, none⟩) (T.length + 1) cap')) B (.slice (some ⟨g, 0, none⟩) (T.length + 1) cap') (T ++ [(f, 0)]) :=
          hA.grown hgrow (by rw [flat_snoc, List.length_append]; exact hown)
        have hb : Below B w (w1.setCell ⟨B, 0, none⟩ (.slice (some ⟨g, 0, none⟩) (T.length + 1) cap')) :=
          ((Below.refl B w).alloc (Nat.le_of_lt h.lt) _).trans (hA.below hgrow)
        obtain ⟨m1, m2⟩ := hm
        have m3 := hT.cell
        have m4 : (T.length : Int) < ((T.length + 1 : Nat) : Int) := by omega
        clear hown hgrow hA hc h
        go_wp2
        go_quiet (fail)
        go_wp2
        go_ret
        exact ⟨g, cap', rfl, hT.drewN nq, below_drewN hb nq⟩

set_option maxHeartbeats 1000000 in
/-- ZZTallyOf where the form is there: the entry's address; nothing has turned. -/
theorem tallyOf_hit (B g cap : Nat) (T : List (ByteArray × Int)) (f : ByteArray) (w : World) (h : Tal w B (.slice (some ⟨g, 0, none⟩) T.length cap) T) (hl : T.length ≤ 8192) (hp : pos f T < T.length) :
    Calls Try.prog 24 #[.pointer (some ⟨B, 0, none⟩), .string f] w fun e w' => e = .returned (.pointer (some ⟨g, pos f T * 5, none⟩)) ∧ w' = w := by
  go_enter Try.func24, Try.ntmps24
  go_wp2_with fail
  refine (of_hit B g cap T f _ h hl hp).mono ?_
  rintro e w' ⟨rfl, rfl⟩
  go_wp2
  go_ret
  exact ⟨rfl, rfl⟩

set_option maxHeartbeats 1000000 in
theorem tallyOf_new (B : Nat) (v : Value) (T : List (ByteArray × Int)) (f : ByteArray) (w : World) (h : Tal w B v T) (hl : T.length ≤ 8192) (hp : ¬ pos f T < T.length) :
    Calls Try.prog 24 #[.pointer (some ⟨B, 0, none⟩), .string f] w fun e w' => ∃ g cap, e = .returned (.pointer (some ⟨g, T.length * 5, none⟩)) ∧
      Tal w' B (.slice (some ⟨g, 0, none⟩) (T.length + 1) cap) (T ++ [(f, 0)]) ∧ Below B w w' := by
  go_enter Try.func24, Try.ntmps24
  go_wp2_with fail
  refine (of_new B v T f _ h hl hp).mono ?_
  rintro e w' ⟨g, cap, rfl, hT, hb⟩
  go_wp2
  go_ret
  exact ⟨g, cap, rfl, hT, hb⟩

/-- ZZTallyOf: the address of the form's entry in the tally with the form in it. -/
theorem tallyOf_any (B : Nat) (v : Value) (T : List (ByteArray × Int)) (f : ByteArray) (w : World) (h : Tal w B v T) (hl : T.length ≤ 8192) :
    Calls Try.prog 24 #[.pointer (some ⟨B, 0, none⟩), .string f] w fun e w' => ∃ g cap, e = .returned (.pointer (some ⟨g, pos f T * 5, none⟩)) ∧
      Tal w' B (.slice (some ⟨g, 0, none⟩) (put f T).length cap) (put f T) ∧ Below B w w' := by
  by_cases hp : pos f T < T.length
  · obtain ⟨ao, cap, rfl, hao⟩ := h.shape
    obtain ⟨g, rfl⟩ := hao _ hp
    refine (tallyOf_hit B g cap T f w h hl hp).mono ?_
    rintro e w' ⟨rfl, rfl⟩
    rw [put_old hp]
    exact ⟨g, cap, rfl, h, Below.refl _ _⟩
  · refine (tallyOf_new B v T f w h hl hp).mono ?_
    rintro e w' ⟨g, cap, rfl, hT, hb⟩
    have e : pos f T = T.length := by have := pos_le f T; omega
    rw [put_new hp, e]
    exact ⟨g, cap, rfl, by simpa using hT, hb⟩

theorem formOf_any (g o : Nat) (s : ByteArray) (w : World) (hc : w.cell? ⟨g, o, none⟩ = some (.string s)) :
    Calls Try.prog 25 #[.pointer (some ⟨g, o, none⟩)] w fun e w' => e = .returned (.string s) ∧ w' = w := by
  go_enter Try.func25, Try.ntmps25
  go_wp2
  go_ret
  exact ⟨rfl, rfl⟩

theorem tallyLen_any (B n cap : Nat) (ao : Option Addr) (w : World) (hc : w.cell? ⟨B, 0, none⟩ = some (.slice ao n cap)) :
    Calls Try.prog 26 #[.pointer (some ⟨B, 0, none⟩)] w fun e w' => e = .returned (.int .i64 n) ∧ w' = w := by
  go_enter Try.func26, Try.ntmps26
  go_wp2
  go_ret
  exact ⟨rfl, rfl⟩

theorem tallyAt_any (B g n cap k : Nat) (w : World) (hc : w.cell? ⟨B, 0, none⟩ = some (.slice (some ⟨g, 0, none⟩) n cap)) (hk : k < n) :
    Calls Try.prog 27 #[.pointer (some ⟨B, 0, none⟩), .int .i64 k] w fun e w' => e = .returned (.pointer (some ⟨g, k * 5, none⟩)) ∧ w' = w := by
  go_enter Try.func27, Try.ntmps27
  go_wp2
  go_ret
  exact ⟨rfl, rfl⟩

theorem countOf_any (g o : Nat) (c : Int) (w : World) (hc : w.cell? ⟨g, o + 2, none⟩ = some (.int .i64 c)) :
    Calls Try.prog 30 #[.pointer (some ⟨g, o, none⟩)] w fun e w' => e = .returned (.int .i64 c) ∧ w' = w := by
  have hc' : w.cell? ⟨g, o + 1 + 1, none⟩ = some (.int .i64 c) := hc
  go_enter Try.func30, Try.ntmps30
  go_wp2
  go_ret
  exact ⟨rfl, rfl⟩

theorem bump_any (g o : Nat) (c : Int) (w : World) (hc : w.cell? ⟨g, o + 2, none⟩ = some (.int .i64 c)) (hf : w.frozen? ⟨g, o + 2, none⟩ = false) (h0 : 0 ≤ c) (h1 : c ≤ 8192) :
    Calls Try.prog 29 #[.pointer (some ⟨g, o, none⟩)] w fun e w' => e = .returned (.tuple #[]) ∧ w' = w.setCell ⟨g, o + 2, none⟩ (.int .i64 (c + 1)) := by
  have hc' : w.cell? ⟨g, o + 1 + 1, none⟩ = some (.int .i64 c) := hc
  have hf' : w.frozen? ⟨g, o + 1 + 1, none⟩ = false := hf
  go_enter Try.func29, Try.ntmps29
  go_wp2
  go_end0
  exact ⟨rfl, rfl⟩
end Go.Proofs.Qxb6000749a.Tally
