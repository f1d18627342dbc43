/-
  zzHasPrefix, by its contract.
-/
import Derived.Test.Qxb6000749aDirSent
namespace Go.Proofs.Qxb6000749a.Dir
open Go.RowKit

theorem hp_eq {a b : ByteArray} {k : Nat} (ha : k < a.size) (hb : k < b.size) (h : (((a[k].toNat : Nat) : Int) != ((b[k].toNat : Nat) : Int)) = false) :
    Lib.hasPrefix (a.data.toList.drop k) (b.data.toList.drop k) = Lib.hasPrefix (a.data.toList.drop (k + 1)) (b.data.toList.drop (k + 1)) := by
  have la : k < a.data.toList.length := by simpa using ha
  have lb : k < b.data.toList.length := by simpa using hb
  have e : a[k] = b[k] := by
    simp at h
    exact UInt8.toNat_inj.1 (by omega)
  rw [List.drop_eq_getElem_cons la, List.drop_eq_getElem_cons lb, byte_list a k ha, byte_list b k hb, e]
  simp only [Lib.hasPrefix, List.isPrefixOf, beq_self_eq_true, Bool.true_and]

theorem hp_ne {a b : ByteArray} {k : Nat} (ha : k < a.size) (hb : k < b.size) (h : (((a[k].toNat : Nat) : Int) != ((b[k].toNat : Nat) : Int)) = true) :
    Lib.hasPrefix (a.data.toList.drop k) (b.data.toList.drop k) = false := by
  have la : k < a.data.toList.length := by simpa using ha
  have lb : k < b.data.toList.length := by simpa using hb
  have hne : ¬ b[k] = a[k] := by
    intro e
    rw [e] at h
    simp at h
  rw [List.drop_eq_getElem_cons la, List.drop_eq_getElem_cons lb, byte_list a k ha, byte_list b k hb]
  simp only [Lib.hasPrefix, List.isPrefixOf, beq_eq_false_iff_ne.2 hne, Bool.false_and]

theorem hp_end {a b : ByteArray} {k : Nat} (h : b.size ≤ k) : Lib.hasPrefix (a.data.toList.drop k) (b.data.toList.drop k) = true := by
  rw [List.drop_of_length_le (l := b.data.toList) (by rw [← Lib.size_eq]; exact h)]
  simp [Lib.hasPrefix]

theorem hp_short {a b : ByteArray} (h : a.size < b.size) : Lib.hasPrefix a.data.toList b.data.toList = false := by
  rw [← Lib.hasPrefix_of_take, ← Lib.size_eq, ← Lib.size_eq]
  simp
  intro h'
  omega

set_option maxHeartbeats 1000000 in
theorem has_any (a b : ByteArray) (w : World) (w0 : a.size ≤ maxLen) :
    Calls Try.prog 20 #[.string a, .string b] w fun e w' => e = .returned (.bool (Lib.hasPrefix a.data.toList b.data.toList)) ∧ ∃ q, w' = w.drewN q := by
  unfold maxLen at w0
  by_cases hl : a.size < b.size
  · have H : Hid (Lib.hasPrefix a.data.toList b.data.toList = false) := hp_short hl
    go_enter Try.func20, Try.ntmps20
    go_wp2
    go_ret
    exact ⟨ret_bool H.out.symm, 0, rfl⟩
  · go_enter Try.func20, Try.ntmps20
    go_wp2
    go_loopw [5] (fun i wr => ∃ k q : Nat, k ≤ b.size ∧ i = .int .i64 k ∧ wr = w.drewN q ∧ Hid (Lib.hasPrefix a.data.toList b.data.toList = Lib.hasPrefix (a.data.toList.drop k) (b.data.toList.drop k))) (fun i _ => b.size - (intOf i).toNat)
    case atStart => exact ⟨0, 0, Nat.zero_le _, rfl, rfl, rfl⟩
    case round =>
      obtain ⟨k, q, hk, rfl, rfl, HS⟩ := hrel
      by_cases hlt : k < b.size
      · have hka : (k : Int) < (a.size : Int) := by omega
        have hkb : (k : Int) < (b.size : Int) := by omega
        have hkan : k < a.size := by omega
        have hkbn : k < b.size := by omega
        have hk0 : (0 : Int) ≤ (k : Int) := by omega
        go_wp2_with fail
        go_quiet (fail)
        go_wp2_with fail
        · go_ret
          exact ⟨ret_bool (HS.out.trans (hp_ne hkan hkbn (by assumption))).symm, drew2 _ _ _⟩
        · go_roundw
          case rel => exact ⟨k + 1, _, by omega, by go_num, rfl, HS.out.trans (hp_eq hkan hkbn (by assumption))⟩
          case measure => simp [intOf]; omega
      · go_wp2
        go_ret
        exact ⟨ret_bool (HS.out.trans (hp_end (by omega))).symm, _, rfl⟩
end Go.Proofs.Qxb6000749a.Dir
