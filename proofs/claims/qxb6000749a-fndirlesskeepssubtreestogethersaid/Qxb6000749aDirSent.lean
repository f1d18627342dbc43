/-
  zzSentinelBefore and zzHasPrefix, by their contracts.
-/
import Derived.Test.Qxb6000749aDirWalks
namespace Go.Proofs.Qxb6000749a.Dir
open Go.RowKit

theorem sl_step {a b : List UInt8} {k : Nat} (ha : k < a.length) (hb : k < b.length) (h : a[k] = b[k]) : sl (a.drop k) (b.drop k) = sl (a.drop (k + 1)) (b.drop (k + 1)) := by
  rw [List.drop_eq_getElem_cons ha, List.drop_eq_getElem_cons hb]
  simp [sl, h]

theorem sl_diff {a b : List UInt8} {k : Nat} (ha : k < a.length) (hb : k < b.length) (h : ¬ a[k] = b[k]) : sl (a.drop k) (b.drop k) = decide (a[k] < b[k]) := by
  rw [List.drop_eq_getElem_cons ha, List.drop_eq_getElem_cons hb]
  simp [sl, h]

theorem sl_end {a b : List UInt8} {k : Nat} (h : (k = a.length ∧ k ≤ b.length) ∨ (k = b.length ∧ k ≤ a.length)) : sl (a.drop k) (b.drop k) = decide (b.length < a.length) := by
  rcases h with ⟨rfl, h⟩ | ⟨rfl, h⟩
  · simp [sl]; exact h
  · by_cases e : a.length = b.length
    · rw [← e]; simp [sl]
    · have hl : b.length < a.length := by omega
      rw [List.drop_eq_getElem_cons hl, List.drop_length]
      simp only [sl, hl, decide_true]

theorem byte_list (a : ByteArray) (k : Nat) (h : k < a.size) : a.data.toList[k]'(by simpa using h) = a[k] := rfl

theorem byte_eq {a b : ByteArray} {k : Nat} (ha : k < a.size) (hb : k < b.size) (h : (((a[k].toNat : Nat) : Int) != ((b[k].toNat : Nat) : Int)) = false) :
    sl (a.data.toList.drop k) (b.data.toList.drop k) = sl (a.data.toList.drop (k + 1)) (b.data.toList.drop (k + 1)) := by
  refine sl_step (by simpa using ha) (by simpa using hb) ?_
  rw [byte_list a k ha, byte_list b k hb]
  simp at h
  exact UInt8.toNat_inj.1 (by omega)

theorem byte_ne {a b : ByteArray} {k : Nat} (ha : k < a.size) (hb : k < b.size) (h : (((a[k].toNat : Nat) : Int) != ((b[k].toNat : Nat) : Int)) = true) :
    sl (a.data.toList.drop k) (b.data.toList.drop k) = decide (a[k].toNat < b[k].toNat) := by
  have hne : ¬ a[k] = b[k] := by
    intro e
    rw [e] at h
    simp at h
  rw [sl_diff (by simpa using ha) (by simpa using hb) (by rw [byte_list a k ha, byte_list b k hb]; exact hne)]
  rw [byte_list a k ha, byte_list b k hb]
  simp only [UInt8.lt_iff_toNat_lt]

theorem drew2 (w : World) (a b : Nat) : ∃ q, (w.drewN a).drewN b = w.drewN q := ⟨a + b, by simp⟩
theorem drew3 (w : World) (a b c : Nat) : ∃ q, ((w.drewN a).drewN b).drewN c = w.drewN q := ⟨a + b + c, by simp⟩

theorem byte_end {a b : ByteArray} {k : Nat} (h : (k = a.size ∧ k ≤ b.size) ∨ (k = b.size ∧ k ≤ a.size)) {t : Bool} (ht : t = true ↔ b.size < a.size) :
    sl (a.data.toList.drop k) (b.data.toList.drop k) = t := by
  rw [Lib.size_eq, Lib.size_eq] at h ht
  rw [sl_end h, Bool.eq_iff_iff, decide_eq_true_eq]
  exact ht.symm

set_option maxHeartbeats 1000000 in
theorem sent_any (a b : ByteArray) (w : World) (w0 : a.size ≤ maxLen) (w1 : b.size ≤ maxLen) :
    Calls Try.prog 17 #[.string a, .string b] w fun e w' => e = .returned (.bool (sl a.data.toList b.data.toList)) ∧ ∃ q, w' = w.drewN q := by
  unfold maxLen at w0 w1
  by_cases hl : b.size < a.size
  · skip
    go_enter Try.func17, Try.ntmps17
    go_wp2
    go_loopw [6] (fun i wr => ∃ k q : Nat, k ≤ b.size ∧ i = .int .i64 k ∧ wr = w.drewN q ∧ Hid (sl a.data.toList b.data.toList = sl (a.data.toList.drop k) (b.data.toList.drop k))) (fun i _ => b.size - (intOf i).toNat)
    case atStart => exact ⟨0, 0, Nat.zero_le _, rfl, rfl, rfl⟩
    case round =>
      obtain ⟨k, q, hk, rfl, rfl, HS⟩ := hrel
      by_cases hlt : k < b.size
      · have hka : (k : Int) < (a.size : Int) := by omega
        have hkb : (k : Int) < (b.size : Int) := by omega
        have hkan : k < a.size := by omega
        have hkbn : k < b.size := by omega
        have hk0 : (0 : Int) ≤ (k : Int) := by omega
        go_wp2_with fail
        go_quiet (fail)
        go_wp2_with fail
        · go_quiet (fail)
          go_wp2
          go_ret
          exact ⟨ret_bool (by rw [HS.out]; exact (byte_ne hkan hkbn (by assumption)).symm), drew3 _ _ _ _⟩
        · go_roundw
          case rel => exact ⟨k + 1, _, by omega, by go_num, rfl, HS.out.trans (byte_eq hkan hkbn (by assumption))⟩
          case measure => simp [intOf]; omega
      · go_wp2
        go_ret
        exact ⟨ret_bool (HS.out.trans (byte_end (a := a) (b := b) (k := k) (by omega) (by simp; omega))).symm, _, rfl⟩
  · skip
    go_enter Try.func17, Try.ntmps17
    go_wp2
    go_loopw [6] (fun i wr => ∃ k q : Nat, k ≤ a.size ∧ i = .int .i64 k ∧ wr = w.drewN q ∧ Hid (sl a.data.toList b.data.toList = sl (a.data.toList.drop k) (b.data.toList.drop k))) (fun i _ => a.size - (intOf i).toNat)
    case atStart => exact ⟨0, 0, Nat.zero_le _, rfl, rfl, rfl⟩
    case round =>
      obtain ⟨k, q, hk, rfl, rfl, HS⟩ := hrel
      by_cases hlt : k < a.size
      · have hka : (k : Int) < (a.size : Int) := by omega
        have hkb : (k : Int) < (b.size : Int) := by omega
        have hkan : k < a.size := by omega
        have hkbn : k < b.size := by omega
        have hk0 : (0 : Int) ≤ (k : Int) := by omega
        go_wp2_with fail
        go_quiet (fail)
        go_wp2_with fail
        · go_quiet (fail)
          go_wp2
          go_ret
          exact ⟨ret_bool (by rw [HS.out]; exact (byte_ne hkan hkbn (by assumption)).symm), drew3 _ _ _ _⟩
        · go_roundw
          case rel => exact ⟨k + 1, _, by omega, by go_num, rfl, HS.out.trans (byte_eq hkan hkbn (by assumption))⟩
          case measure => simp [intOf]; omega
      · go_wp2
        go_ret
        exact ⟨ret_bool (HS.out.trans (byte_end (a := a) (b := b) (k := k) (by omega) (by simp; omega))).symm, _, rfl⟩

end Go.Proofs.Qxb6000749a.Dir
