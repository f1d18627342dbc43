/-
  Walks shared by the three DirLess statements: strings.HasPrefix, (dirQueue).Less, ZZDirLess.
-/
import Derived.Test.Qxb6000749aChecked
import Derived.Test.Qxb6000749aDirPlain
import Derived.WalkKit
import Derived.ProofKit
import Derived.WalkLawsBesides
import Derived.WalkSpells
import Derived.Lib.Strings
import Derived.Lib.Slices
import Derived.Lib.Walk
import Derived.Deep.QuietTactic
import Derived.BigQuiet
namespace Go.Proofs.Qxb6000749a.Dir
open Go.RowKit

set_option maxHeartbeats 1000000 in
theorem hasPrefix_any (s p : ByteArray) (w : World) :
    Calls Try.prog 35 #[.string s, .string p] w fun e w' => e = .returned (.bool (Lib.hasPrefix s.data.toList p.data.toList)) ∧ w' = w := by
  rw [← Lib.hasPrefix_of_take, ← Lib.size_eq, ← Lib.size_eq]
  go_enter Try.func35, Try.ntmps35
  go_wp2
  · rename_i h
    go_ret
    refine ⟨?_, rfl⟩
    show Ending.returned (Value.bool ((s.extract 0 p.size).toList == p.toList)) = _
    rw [Lib.extract_toList, Lib.toList_data]
    simp [h]
  · rename_i h
    go_ret
    refine ⟨?_, rfl⟩
    show Ending.returned (Value.bool false) = _
    simp [h]

theorem dirB_1 {a b : List UInt8} (h : Lib.hasPrefix b a = true) : dirB a b = false := by simp [dirB, h]
theorem dirB_2 {a b : List UInt8} (h : Lib.hasPrefix b a = false) (g : Lib.hasPrefix a b = true) : dirB a b = true := by simp [dirB, h, g]
theorem dirB_3 {a b : List UInt8} (h : Lib.hasPrefix b a = false) (g : Lib.hasPrefix a b = false) : dirB a b = Op.bytesLess a b := by simp [dirB, h, g]
theorem ret_bool {a b : Bool} (h : a = b) : Ending.returned (.bool a) = .returned (.bool b) := by rw [h]

set_option maxHeartbeats 1000000 in
theorem less33 (g : Nat) (a b : ByteArray) (w : World) (h0 : w.cell? ⟨g, 0, none⟩ = some (.string a)) (h2 : w.cell? ⟨g, 2, none⟩ = some (.string b)) :
    Calls Try.prog 33 #[.slice (some ⟨g, 0, none⟩) 2 2, .int .i64 0, .int .i64 1] w fun e w' => e = .returned (.bool (dirB a.data.toList b.data.toList)) ∧ ∃ n, w' = w.drewN n := by
  by_cases h : Lib.hasPrefix b.data.toList a.data.toList = true
  · have H : Hid (dirB a.data.toList b.data.toList = false) := dirB_1 h
    go_enter Try.func33, Try.ntmps33
    go_wp2_with fail
    go_quiet (fail)
    go_wp2_with (go_at_call 35; refine (hasPrefix_any _ _ _).mono ?_; rintro e w' ⟨rfl, rfl⟩)
    go_ret
    exact ⟨ret_bool H.out.symm, _, rfl⟩
  · have h' : Lib.hasPrefix b.data.toList a.data.toList = false := by simpa using h
    clear h
    by_cases k : Lib.hasPrefix a.data.toList b.data.toList = true
    · have H : Hid (dirB a.data.toList b.data.toList = true) := dirB_2 h' k
      go_enter Try.func33, Try.ntmps33
      go_wp2_with fail
      go_quiet (fail)
      go_wp2_with (go_at_call 35; refine (hasPrefix_any _ _ _).mono ?_; rintro e w' ⟨rfl, rfl⟩)
      go_ret
      exact ⟨ret_bool H.out.symm, _, rfl⟩
    · have k' : Lib.hasPrefix a.data.toList b.data.toList = false := by simpa using k
      clear k
      have H : Hid (dirB a.data.toList b.data.toList = Op.bytesLess a.data.toList b.data.toList) := dirB_3 h' k'
      go_enter Try.func33, Try.ntmps33
      go_wp2_with fail
      go_quiet (fail)
      go_wp2_with (go_at_call 35; refine (hasPrefix_any _ _ _).mono ?_; rintro e w' ⟨rfl, rfl⟩)
      go_ret
      exact ⟨ret_bool (by rw [H.out, Lib.toList_data, Lib.toList_data]), _, rfl⟩

theorem grown_drewN {W w' : World} (h : Grown W w') (n : Nat) : Grown W (w'.drewN n) := h

theorem grown_next {a b c : World} (h : Grown a b) (k : Grown b c) : Grown a c :=
  ⟨World.keptBut_trans h.1 (World.keptBut_mono (fun _ f => f.elim) k.1), fun x => (k.2.1 x).trans (h.2.1 x), Nat.le_trans h.2.2 k.2.2⟩

set_option maxHeartbeats 1000000 in
theorem less_any (a b : ByteArray) (w : World) :
    Calls Try.prog 16 #[.string a, .string b] w fun e w' => e = .returned (.bool (sl a.data.toList b.data.toList)) ∧ Grown w w' := by
  rw [← dirB_sl]
  go_enter Try.func16, Try.ntmps16
  go_wp2_with fail
  refine (less33 _ a b _ ?_ ?_).mono ?_
  · simp
  · simp
  rintro e w' ⟨rfl, n, rfl⟩
  go_wp2
  go_ret
  refine ⟨rfl, ?_⟩
  exact grown_drewN ((Grown.refl _).alloc _ _) n
end Go.Proofs.Qxb6000749a.Dir
