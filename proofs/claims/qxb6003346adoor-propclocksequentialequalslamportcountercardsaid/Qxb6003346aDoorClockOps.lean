/-
  The Clock's methods, by their contracts.
-/
import Derived.Test.Qxb6003346aDoorClockCell
import Derived.Deep.QuietTactic
import Derived.BigQuiet
namespace Go.Proofs.Qxb6003346aDoor.Clock
open Go.RowKit

set_option maxHeartbeats 1000000 in
theorem set29_low {C : Nat} {a b : Int} (m : Int) (w : World) (h : At w C a b) (hm : m < 9223372036854775808) :
    Calls Tryd.prog 29 #[.pointer (some ⟨C, 0, none⟩), .int .u64 m] w fun e w' => e = .returned (.tuple #[]) ∧ Turned w C m b w' := by
  go_enter Tryd.func29, Tryd.ntmps29
  go_wp2_with fail
  refine (store0 m _ h).mono ?_
  rintro e w' ⟨rfl, ht⟩
  go_wp2
  first | go_end0 | refine bodyPost_ret (results_none rfl _ _ _) rfl ?_
  exact ⟨rfl, ht⟩

set_option maxHeartbeats 1000000 in
theorem set29_high {C : Nat} {a b : Int} (m : Int) (w : World) (h : At w C a b) (hm : 9223372036854775808 ≤ m) :
    Calls Tryd.prog 29 #[.pointer (some ⟨C, 0, none⟩), .int .u64 m] w fun e w' => e = .returned (.tuple #[]) ∧ Turned w C 9223372036854775808 m w' := by
  go_enter Tryd.func29, Tryd.ntmps29
  go_wp2_with fail
  refine (store0 _ _ h).mono ?_
  rintro e w1 ⟨rfl, ht1⟩
  go_wp2_with fail
  refine (store1 m _ ht1.1).mono ?_
  rintro e w2 ⟨rfl, ht2⟩
  go_wp2
  first | go_end0 | refine bodyPost_ret (results_none rfl _ _ _) rfl ?_
  exact ⟨rfl, ht2.1, ht1.2.trans ht2.2⟩

set_option maxHeartbeats 1000000 in
theorem set17_low {C : Nat} {a b : Int} (m : Int) (w : World) (h : At w C a b) (hm : m < 9223372036854775808) :
    Calls Tryd.prog 17 #[.pointer (some ⟨C, 0, none⟩), .int .u64 m] w fun e w' => e = .returned (.tuple #[]) ∧ Turned w C m b w' := by
  go_enter Tryd.func17, Tryd.ntmps17
  go_wp2_with fail
  refine (set29_low m _ h hm).mono ?_
  rintro e w1 ⟨rfl, ht1⟩
  go_wp2
  first | go_end0 | refine bodyPost_ret (results_none rfl _ _ _) rfl ?_
  exact ⟨rfl, ht1⟩

set_option maxHeartbeats 1000000 in
theorem set17_high {C : Nat} {a b : Int} (m : Int) (w : World) (h : At w C a b) (hm : 9223372036854775808 ≤ m) :
    Calls Tryd.prog 17 #[.pointer (some ⟨C, 0, none⟩), .int .u64 m] w fun e w' => e = .returned (.tuple #[]) ∧ Turned w C 9223372036854775808 m w' := by
  go_enter Tryd.func17, Tryd.ntmps17
  go_wp2_with fail
  refine (set29_high m _ h hm).mono ?_
  rintro e w1 ⟨rfl, ht1⟩
  go_wp2
  first | go_end0 | refine bodyPost_ret (results_none rfl _ _ _) rfl ?_
  exact ⟨rfl, ht1⟩

/-! ### receiveHigh -/
set_option maxHeartbeats 1000000 in
theorem recvHigh_from {C : Nat} {a b : Int} (f : Int) (w : World) (h : At w C a b) (hb : (b != 0) = true) (b0 : 0 ≤ b) (hl : f < 18446744073709551615) (h1 : b < f) :
    Calls Tryd.prog 44 #[.pointer (some ⟨C, 0, none⟩), .int .u64 f] w fun e w' => e = .returned (.tuple #[.int .u64 (f + 1), .nilIface]) ∧ Turned w C a (f + 1) w' := by
  go_enter Tryd.func44, Tryd.ntmps44
  go_wp2_with fail
  refine wp_loop_rounds 1 ?_
  rw [rounds_succ]
  go_wp2_with fail
  refine (highTime31 _ h hb).mono ?_
  rintro e w1 ⟨rfl, rfl⟩
  go_wp2_with fail
  refine (cas1 _ _ h).mono ?_
  rintro e w2 ⟨rfl, ht⟩
  go_wp2
  go_ret2
  exact ⟨rfl, ht⟩

set_option maxHeartbeats 1000000 in
theorem recvHigh_own {C : Nat} {a b : Int} (f : Int) (w : World) (h : At w C a b) (hb : (b != 0) = true) (b0 : 0 ≤ b) (hl : b < 18446744073709551615) (h1 : f ≤ b) :
    Calls Tryd.prog 44 #[.pointer (some ⟨C, 0, none⟩), .int .u64 f] w fun e w' => e = .returned (.tuple #[.int .u64 (b + 1), .nilIface]) ∧ Turned w C a (b + 1) w' := by
  go_enter Tryd.func44, Tryd.ntmps44
  go_wp2_with fail
  refine wp_loop_rounds 1 ?_
  rw [rounds_succ]
  go_wp2_with fail
  refine (highTime31 _ h hb).mono ?_
  rintro e w1 ⟨rfl, rfl⟩
  go_wp2_with fail
  refine (cas1 _ _ h).mono ?_
  rintro e w2 ⟨rfl, ht⟩
  go_wp2
  go_ret2
  exact ⟨rfl, ht⟩

set_option maxHeartbeats 1000000 in
theorem recvHigh_over {C : Nat} {a : Int} (f : Int) (x : Addr) (w : World) (h : At w C a 18446744073709551615) (h1 : f ≤ 18446744073709551615) (hE : w.cell? ⟨0, 0, none⟩ = some (.iface 104 (.pointer (some x)))) :
    Calls Tryd.prog 44 #[.pointer (some ⟨C, 0, none⟩), .int .u64 f] w fun e w' => e = .returned (.tuple #[.int .u64 0, .iface 104 (.pointer (some x))]) ∧ ∃ q, w' = w.drewN q := by
  go_enter Tryd.func44, Tryd.ntmps44
  go_wp2_with fail
  refine wp_loop_rounds 1 ?_
  rw [rounds_succ]
  go_wp2_with fail
  refine (highTime31 _ h (by decide)).mono ?_
  rintro e w1 ⟨rfl, rfl⟩
  go_wp2_with fail
  go_quiet (fail)
  go_wp2
  go_ret2
  exact ⟨rfl, _, rfl⟩

/-! ### Tick -/
set_option maxHeartbeats 1000000 in
theorem tick_low {C : Nat} {m b : Int} (w : World) (h : At w C m b) (m0 : 0 ≤ m) (hm : m + 1 < 9223372036854775808) :
    Calls Tryd.prog 19 #[.pointer (some ⟨C, 0, none⟩)] w fun e w' => e = .returned (.tuple #[.int .u64 (m + 1), .nilIface]) ∧ Turned w C (m + 1) b w' := by
  have hw : IntKind.u64.wrap (m + 1) = m + 1 := by rw [IntKind.wrap_u64]; omega
  go_enter Tryd.func19, Tryd.ntmps19
  go_wp2_with fail
  refine (add0 1 (m + 1) _ h hw).mono ?_
  rintro e w1 ⟨rfl, ht⟩
  clear hw
  go_wp2
  go_ret2
  exact ⟨rfl, ht⟩

set_option maxHeartbeats 1000000 in
theorem tick_edge {C : Nat} {b : Int} (w : World) (h : At w C 9223372036854775807 b) :
    Calls Tryd.prog 19 #[.pointer (some ⟨C, 0, none⟩)] w fun e w' => e = .returned (.tuple #[.int .u64 9223372036854775808, .nilIface]) ∧ Turned w C 9223372036854775808 9223372036854775808 w' := by
  go_enter Tryd.func19, Tryd.ntmps19
  go_wp2_with fail
  refine (add0 1 9223372036854775808 _ h (by decide)).mono ?_
  rintro e w1 ⟨rfl, ht⟩
  go_wp2_with (go_at_call 33; go_in)
  refine (store1 _ _ ht.1).mono ?_
  rintro e w2 ⟨rfl, ht2⟩
  go_wp2
  go_ret2
  exact ⟨rfl, ht2.1, ht.2.trans ht2.2⟩

set_option maxHeartbeats 1000000 in
theorem tick_high {C : Nat} {m : Int} (w : World) (h : At w C 9223372036854775808 m) (hm : 9223372036854775808 ≤ m) (hl : m < 18446744073709551615) :
    Calls Tryd.prog 19 #[.pointer (some ⟨C, 0, none⟩)] w fun e w' => e = .returned (.tuple #[.int .u64 (m + 1), .nilIface]) ∧ Turned w C 9223372036854775808 (m + 1) w' := by
  go_enter Tryd.func19, Tryd.ntmps19
  go_wp2_with fail
  refine (add0 1 9223372036854775809 _ h (by decide)).mono ?_
  rintro e w1 ⟨rfl, ht⟩
  go_wp2_with (go_at_call 33; go_in)
  refine (add0 18446744073709551615 9223372036854775808 _ ht.1 (by decide)).mono ?_
  rintro e w2 ⟨rfl, ht2⟩
  go_wp2_with fail
  refine (recvHigh_own 0 _ ht2.1 (by simp; omega) (by omega) hl (by omega)).mono ?_
  rintro e w3 ⟨rfl, ht3⟩
  go_wp2
  go_ret2
  exact ⟨rfl, ht3.1, (ht.2.trans ht2.2).trans ht3.2⟩

set_option maxHeartbeats 1000000 in
theorem tick_over {C : Nat} (x : Addr) (w : World) (h : At w C 9223372036854775808 18446744073709551615) (hC : 0 < C) (hE : w.cell? ⟨0, 0, none⟩ = some (.iface 104 (.pointer (some x)))) :
    Calls Tryd.prog 19 #[.pointer (some ⟨C, 0, none⟩)] w fun e w' => e = .returned (.tuple #[.int .u64 0, .iface 104 (.pointer (some x))]) ∧ Turned w C 9223372036854775808 18446744073709551615 w' := by
  go_enter Tryd.func19, Tryd.ntmps19
  go_wp2_with fail
  refine (add0 1 9223372036854775809 _ h (by decide)).mono ?_
  rintro e w1 ⟨rfl, ht⟩
  go_wp2_with (go_at_call 33; go_in)
  refine (add0 18446744073709551615 9223372036854775808 _ ht.1 (by decide)).mono ?_
  rintro e w2 ⟨rfl, ht2⟩
  have hE2 : w2.cell? ⟨0, 0, none⟩ = some (.iface 104 (.pointer (some x))) := by
    rw [(ht.2.trans ht2.2).cell (p := ⟨0, 0, none⟩) hC]; exact hE
  go_wp2_with fail
  refine (recvHigh_over 0 x _ ht2.1 (by omega) hE2).mono ?_
  rintro e w3 ⟨rfl, q, rfl⟩
  go_wp2
  go_ret2
  exact ⟨rfl, ht2.1.drewN q, below_drewN (ht.2.trans ht2.2) q⟩
end Go.Proofs.Qxb6003346aDoor.Clock
