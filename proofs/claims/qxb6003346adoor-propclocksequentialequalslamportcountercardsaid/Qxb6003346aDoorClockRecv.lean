/-
  (*Clock).Receive, by its contracts.
-/
import Derived.Test.Qxb6003346aDoorClockOps
namespace Go.Proofs.Qxb6003346aDoor.Clock
open Go.RowKit

/-! ### receiveLoop -/
set_option maxHeartbeats 1000000 in
theorem loop_over {C : Nat} (x : Addr) (w : World) (hE : w.cell? ⟨0, 0, none⟩ = some (.iface 104 (.pointer (some x)))) :
    Calls Tryd.prog 37 #[.pointer (some ⟨C, 0, none⟩), .int .u64 18446744073709551615] w fun e w' => e = .returned (.tuple #[.int .u64 0, .iface 104 (.pointer (some x))]) ∧ ∃ q, w' = w.drewN q := by
  go_enter Tryd.func37, Tryd.ntmps37
  go_wp2_with fail
  go_quiet (fail)
  go_wp2
  go_ret2
  exact ⟨rfl, _, rfl⟩

set_option maxHeartbeats 1000000 in
theorem loop_low {C : Nat} {m b : Int} (f : Int) (w : World) (h : At w C m b) (m0 : 0 ≤ m) (hm : m < 9223372036854775808) (hf : m < f) (h1 : 9223372036854775807 ≤ f) (h2 : f < 18446744073709551615) :
    Calls Tryd.prog 37 #[.pointer (some ⟨C, 0, none⟩), .int .u64 f] w fun e w' => e = .returned (.tuple #[.int .u64 (f + 1), .nilIface]) ∧ Turned w C 9223372036854775808 (f + 1) w' := by
  have hne : (f == 18446744073709551615) = false := by simp; omega
  by_cases hmin : f + 1 ≤ 9223372036854775808
  · obtain rfl : f = 9223372036854775807 := by omega
    go_enter Tryd.func37, Tryd.ntmps37
    go_wp2_with fail
    refine wp_loop_rounds 1 ?_
    rw [rounds_succ]
    go_wp2_with fail
    refine (load0 _ h).mono ?_
    rintro e w1 ⟨rfl, rfl⟩
    go_wp2_with fail
    refine (cas0 _ _ h).mono ?_
    rintro e w2 ⟨rfl, ht⟩
    go_wp2_with fail
    refine (store1 _ _ ht.1).mono ?_
    rintro e w3 ⟨rfl, ht2⟩
    go_wp2
    go_ret2
    exact ⟨rfl, ht2.1, ht.2.trans ht2.2⟩
  · go_enter Tryd.func37, Tryd.ntmps37
    go_wp2_with fail
    refine wp_loop_rounds 1 ?_
    rw [rounds_succ]
    go_wp2_with fail
    refine (load0 _ h).mono ?_
    rintro e w1 ⟨rfl, rfl⟩
    go_wp2_with fail
    refine (cas0 _ _ h).mono ?_
    rintro e w2 ⟨rfl, ht⟩
    go_wp2_with fail
    refine (store1 _ _ ht.1).mono ?_
    rintro e w3 ⟨rfl, ht2⟩
    go_wp2
    go_ret2
    exact ⟨rfl, ht2.1, ht.2.trans ht2.2⟩

set_option maxHeartbeats 1000000 in
theorem loop_from {C : Nat} {m : Int} (f : Int) (w : World) (h : At w C 9223372036854775808 m) (hm : 9223372036854775808 ≤ m) (hf : m < f) (h2 : f < 18446744073709551615) :
    Calls Tryd.prog 37 #[.pointer (some ⟨C, 0, none⟩), .int .u64 f] w fun e w' => e = .returned (.tuple #[.int .u64 (f + 1), .nilIface]) ∧ Turned w C 9223372036854775808 (f + 1) w' := by
  have hne : (f == 18446744073709551615) = false := by simp; omega
  go_enter Tryd.func37, Tryd.ntmps37
  go_wp2_with fail
  refine wp_loop_rounds 1 ?_
  rw [rounds_succ]
  go_wp2_with fail
  refine (load0 _ h).mono ?_
  rintro e w1 ⟨rfl, rfl⟩
  go_wp2_with fail
  refine (recvHigh_from f _ h (by simp; omega) (by omega) h2 hf).mono ?_
  rintro e w2 ⟨rfl, ht⟩
  go_wp2
  go_ret2
  exact ⟨rfl, ht⟩

set_option maxHeartbeats 1000000 in
theorem loop_own {C : Nat} {m : Int} (f : Int) (w : World) (h : At w C 9223372036854775808 m) (hm : 9223372036854775808 ≤ m) (hf : f ≤ m) (h2 : m < 18446744073709551615) :
    Calls Tryd.prog 37 #[.pointer (some ⟨C, 0, none⟩), .int .u64 f] w fun e w' => e = .returned (.tuple #[.int .u64 (m + 1), .nilIface]) ∧ Turned w C 9223372036854775808 (m + 1) w' := by
  have hne : (f == 18446744073709551615) = false := by simp; omega
  go_enter Tryd.func37, Tryd.ntmps37
  go_wp2_with fail
  refine wp_loop_rounds 1 ?_
  rw [rounds_succ]
  go_wp2_with fail
  refine (load0 _ h).mono ?_
  rintro e w1 ⟨rfl, rfl⟩
  go_wp2_with fail
  refine (recvHigh_own f _ h (by simp; omega) (by omega) h2 hf).mono ?_
  rintro e w2 ⟨rfl, ht⟩
  go_wp2
  go_ret2
  exact ⟨rfl, ht⟩

set_option maxHeartbeats 1000000 in
theorem loop_full {C : Nat} (f : Int) (x : Addr) (w : World) (h : At w C 9223372036854775808 18446744073709551615) (h2 : f < 18446744073709551615) (hE : w.cell? ⟨0, 0, none⟩ = some (.iface 104 (.pointer (some x)))) :
    Calls Tryd.prog 37 #[.pointer (some ⟨C, 0, none⟩), .int .u64 f] w fun e w' => e = .returned (.tuple #[.int .u64 0, .iface 104 (.pointer (some x))]) ∧ ∃ q, w' = w.drewN q := by
  have hne : (f == 18446744073709551615) = false := by simp; omega
  go_enter Tryd.func37, Tryd.ntmps37
  go_wp2_with fail
  refine wp_loop_rounds 1 ?_
  rw [rounds_succ]
  go_wp2_with fail
  refine (load0 _ h).mono ?_
  rintro e w1 ⟨rfl, rfl⟩
  go_wp2_with fail
  refine (recvHigh_over f x _ h (by omega) hE).mono ?_
  rintro e w2 ⟨rfl, q, rfl⟩
  go_wp2
  go_ret2
  exact ⟨rfl, q, rfl⟩

/-! ### Receive -/
set_option maxHeartbeats 1000000 in
/-- A time not above a low clock: a tick. -/
theorem recv_tick {C : Nat} {m b f : Int} (w : World) (h : At w C m b) (hm : m < 9223372036854775808) (hf : f ≤ m) {r : Value} {P : World → Prop}
    (ht : Calls Tryd.prog 19 #[.pointer (some ⟨C, 0, none⟩)] w fun e w' => e = .returned (.tuple #[.int .u64 (m + 1), r]) ∧ P w') :
    Calls Tryd.prog 21 #[.pointer (some ⟨C, 0, none⟩), .int .u64 f] w fun e w' => e = .returned (.tuple #[.int .u64 (m + 1), r]) ∧ P w' := by
  have HT : Hid (Calls Tryd.prog 19 #[.pointer (some ⟨C, 0, none⟩)] w fun e w' => e = .returned (.tuple #[.int .u64 (m + 1), r]) ∧ P w') := ht
  clear ht
  go_enter Tryd.func21, Tryd.ntmps21
  go_wp2_with fail
  refine (load0 _ h).mono ?_
  rintro e w1 ⟨rfl, rfl⟩
  go_wp2_with fail
  refine HT.out.mono ?_
  rintro e w2 ⟨rfl, hP⟩
  go_wp2
  go_ret2
  exact ⟨rfl, hP⟩

set_option maxHeartbeats 1000000 in
/-- A later time, still low. -/
theorem recv_low {C : Nat} {m b : Int} (f : Int) (w : World) (h : At w C m b) (m0 : 0 ≤ m) (hm : m < 9223372036854775808) (hf : m < f) (h1 : f < 9223372036854775807) :
    Calls Tryd.prog 21 #[.pointer (some ⟨C, 0, none⟩), .int .u64 f] w fun e w' => e = .returned (.tuple #[.int .u64 (f + 1), .nilIface]) ∧ Turned w C (f + 1) b w' := by
  go_enter Tryd.func21, Tryd.ntmps21
  go_wp2_with fail
  refine (load0 _ h).mono ?_
  rintro e w1 ⟨rfl, rfl⟩
  go_wp2_with fail
  refine (cas0 _ _ h).mono ?_
  rintro e w2 ⟨rfl, ht⟩
  go_wp2
  go_ret2
  exact ⟨rfl, ht⟩

set_option maxHeartbeats 1000000 in
/-- What receiveLoop settles, the clock low. -/
theorem recv_loop_low {C : Nat} {m b f : Int} (w : World) (h : At w C m b) (hm : m < 9223372036854775808) (hf : m < f) (h1 : 9223372036854775807 ≤ f) {t : Int} {r : Value} {P : World → Prop}
    (ht : Calls Tryd.prog 37 #[.pointer (some ⟨C, 0, none⟩), .int .u64 f] w fun e w' => e = .returned (.tuple #[.int .u64 t, r]) ∧ P w') :
    Calls Tryd.prog 21 #[.pointer (some ⟨C, 0, none⟩), .int .u64 f] w fun e w' => e = .returned (.tuple #[.int .u64 t, r]) ∧ P w' := by
  have HT : Hid (Calls Tryd.prog 37 #[.pointer (some ⟨C, 0, none⟩), .int .u64 f] w fun e w' => e = .returned (.tuple #[.int .u64 t, r]) ∧ P w') := ht
  clear ht
  go_enter Tryd.func21, Tryd.ntmps21
  go_wp2_with fail
  refine (load0 _ h).mono ?_
  rintro e w1 ⟨rfl, rfl⟩
  go_wp2_with fail
  refine HT.out.mono ?_
  rintro e w2 ⟨rfl, hP⟩
  go_wp2
  go_ret2
  exact ⟨rfl, hP⟩

set_option maxHeartbeats 1000000 in
/-- What receiveLoop settles, the clock high. -/
theorem recv_loop_high {C : Nat} {m f : Int} (w : World) (h : At w C 9223372036854775808 m) {t : Int} {r : Value} {P : World → Prop}
    (ht : Calls Tryd.prog 37 #[.pointer (some ⟨C, 0, none⟩), .int .u64 f] w fun e w' => e = .returned (.tuple #[.int .u64 t, r]) ∧ P w') :
    Calls Tryd.prog 21 #[.pointer (some ⟨C, 0, none⟩), .int .u64 f] w fun e w' => e = .returned (.tuple #[.int .u64 t, r]) ∧ P w' := by
  have HT : Hid (Calls Tryd.prog 37 #[.pointer (some ⟨C, 0, none⟩), .int .u64 f] w fun e w' => e = .returned (.tuple #[.int .u64 t, r]) ∧ P w') := ht
  clear ht
  go_enter Tryd.func21, Tryd.ntmps21
  go_wp2_with fail
  refine (load0 _ h).mono ?_
  rintro e w1 ⟨rfl, rfl⟩
  go_wp2_with fail
  refine HT.out.mono ?_
  rintro e w2 ⟨rfl, hP⟩
  go_wp2
  go_ret2
  exact ⟨rfl, hP⟩
end Go.Proofs.Qxb6003346aDoor.Clock
