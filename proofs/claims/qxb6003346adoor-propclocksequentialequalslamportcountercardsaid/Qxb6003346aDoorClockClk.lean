/-
  A Clock at time m, and what its methods do to it: the Lamport counter.
-/
import Derived.Test.Qxb6003346aDoorClockRecv
namespace Go.Proofs.Qxb6003346aDoor.Clock
open Go.RowKit

def lo (m : Int) : Int := if m < 9223372036854775808 then m else 9223372036854775808
def hi (m : Int) : Int := if m < 9223372036854775808 then 0 else m

theorem lo_low {m : Int} (h : m < 9223372036854775808) : lo m = m := if_pos h
theorem lo_high {m : Int} (h : 9223372036854775808 ≤ m) : lo m = 9223372036854775808 := if_neg (by omega)
theorem hi_low {m : Int} (h : m < 9223372036854775808) : hi m = 0 := if_pos h
theorem hi_high {m : Int} (h : 9223372036854775808 ≤ m) : hi m = m := if_neg (by omega)

/-- Block C is a Clock at time m. -/
def Clk (w : World) (C : Nat) (m : Int) : Prop := At w C (lo m) (hi m)

theorem Clk.low {w : World} {C : Nat} {m : Int} (h : Clk w C m) (hm : m < 9223372036854775808) : At w C m 0 := by
  unfold Clk at h
  rwa [lo_low hm, hi_low hm] at h
theorem Clk.high {w : World} {C : Nat} {m : Int} (h : Clk w C m) (hm : 9223372036854775808 ≤ m) : At w C 9223372036854775808 m := by
  unfold Clk at h
  rwa [lo_high hm, hi_high hm] at h
theorem Clk.of_low {w : World} {C : Nat} {m : Int} (h : At w C m 0) (hm : m < 9223372036854775808) : Clk w C m := by
  unfold Clk
  rwa [lo_low hm, hi_low hm]
theorem Clk.of_high {w : World} {C : Nat} {m : Int} (h : At w C 9223372036854775808 m) (hm : 9223372036854775808 ≤ m) : Clk w C m := by
  unfold Clk
  rwa [lo_high hm, hi_high hm]
theorem Clk.drewN {w : World} {C : Nat} {m : Int} (h : Clk w C m) (q : Nat) : Clk (w.drewN q) C m := h

/-- Behind the call the clock is at m; below it nothing has turned. -/
def Kept (w : World) (C : Nat) (m : Int) (w' : World) : Prop := Clk w' C m ∧ Below C w w'

theorem set_any {C : Nat} (m : Int) (w : World) (h : At w C 0 0) :
    Calls Tryd.prog 17 #[.pointer (some ⟨C, 0, none⟩), .int .u64 m] w fun e w' => e = .returned (.tuple #[]) ∧ Kept w C m w' := by
  by_cases hm : m < 9223372036854775808
  · refine (set17_low m w h hm).mono ?_
    rintro e w' ⟨rfl, ht⟩
    exact ⟨rfl, Clk.of_low ht.1 hm, ht.2⟩
  · refine (set17_high m w h (by omega)).mono ?_
    rintro e w' ⟨rfl, ht⟩
    exact ⟨rfl, Clk.of_high ht.1 (by omega), ht.2⟩

theorem now_any {C : Nat} {m : Int} (w : World) (h : Clk w C m) :
    Calls Tryd.prog 18 #[.pointer (some ⟨C, 0, none⟩)] w fun e w' => e = .returned (.int .u64 m) ∧ w' = w := by
  by_cases hm : m < 9223372036854775808
  · exact now_low w (h.low hm) hm
  · exact now_high w (h.high (by omega)) (by omega) (by simp; omega)

theorem tick_ok {C : Nat} {m : Int} (w : World) (h : Clk w C m) (m0 : 0 ≤ m) (hl : m < 18446744073709551615) :
    Calls Tryd.prog 19 #[.pointer (some ⟨C, 0, none⟩)] w fun e w' => e = .returned (.tuple #[.int .u64 (m + 1), .nilIface]) ∧ Kept w C (m + 1) w' := by
  by_cases hm : m < 9223372036854775808
  · by_cases h1 : m + 1 < 9223372036854775808
    · refine (tick_low w (h.low hm) m0 h1).mono ?_
      rintro e w' ⟨rfl, ht⟩
      exact ⟨rfl, Clk.of_low ht.1 h1, ht.2⟩
    · obtain rfl : m = 9223372036854775807 := by omega
      refine (tick_edge w (h.low hm)).mono ?_
      rintro e w' ⟨rfl, ht⟩
      exact ⟨rfl, Clk.of_high ht.1 (by omega), ht.2⟩
  · refine (tick_high w (h.high (by omega)) (by omega) hl).mono ?_
    rintro e w' ⟨rfl, ht⟩
    exact ⟨rfl, Clk.of_high ht.1 (by omega), ht.2⟩

theorem tick_max {C : Nat} (x : Addr) (w : World) (h : Clk w C 18446744073709551615) (hC : 0 < C) (hE : w.cell? ⟨0, 0, none⟩ = some (.iface 104 (.pointer (some x)))) :
    Calls Tryd.prog 19 #[.pointer (some ⟨C, 0, none⟩)] w fun e w' => e = .returned (.tuple #[.int .u64 0, .iface 104 (.pointer (some x))]) ∧ Kept w C 18446744073709551615 w' := by
  refine (tick_over x w (h.high (by omega)) hC hE).mono ?_
  rintro e w' ⟨rfl, ht⟩
  exact ⟨rfl, Clk.of_high ht.1 (by omega), ht.2⟩

/-- A time not above the clock's. -/
theorem recv_own {C : Nat} {m : Int} (f : Int) (w : World) (h : Clk w C m) (m0 : 0 ≤ m) (hl : m < 18446744073709551615) (hf : f ≤ m) :
    Calls Tryd.prog 21 #[.pointer (some ⟨C, 0, none⟩), .int .u64 f] w fun e w' => e = .returned (.tuple #[.int .u64 (m + 1), .nilIface]) ∧ Kept w C (m + 1) w' := by
  by_cases hm : m < 9223372036854775808
  · exact recv_tick w (h.low hm) hm hf (tick_ok w h m0 hl)
  · refine recv_loop_high w (h.high (by omega)) ?_
    refine (loop_own f w (h.high (by omega)) (by omega) hf hl).mono ?_
    rintro e w' ⟨rfl, ht⟩
    exact ⟨rfl, Clk.of_high ht.1 (by omega), ht.2⟩

/-- A time above the clock's. -/
theorem recv_new {C : Nat} {m : Int} (f : Int) (w : World) (h : Clk w C m) (m0 : 0 ≤ m) (hf : m < f) (hl : f < 18446744073709551615) :
    Calls Tryd.prog 21 #[.pointer (some ⟨C, 0, none⟩), .int .u64 f] w fun e w' => e = .returned (.tuple #[.int .u64 (f + 1), .nilIface]) ∧ Kept w C (f + 1) w' := by
  by_cases hm : m < 9223372036854775808
  · by_cases h1 : f < 9223372036854775807
    · refine (recv_low f w (h.low hm) m0 hm hf h1).mono ?_
      rintro e w' ⟨rfl, ht⟩
      exact ⟨rfl, Clk.of_low ht.1 (by omega), ht.2⟩
    · refine recv_loop_low w (h.low hm) hm hf (by omega) ?_
      refine (loop_low f w (h.low hm) m0 hm hf (by omega) hl).mono ?_
      rintro e w' ⟨rfl, ht⟩
      exact ⟨rfl, Clk.of_high ht.1 (by omega), ht.2⟩
  · refine recv_loop_high w (h.high (by omega)) ?_
    refine (loop_from f w (h.high (by omega)) (by omega) hf hl).mono ?_
    rintro e w' ⟨rfl, ht⟩
    exact ⟨rfl, Clk.of_high ht.1 (by omega), ht.2⟩

/-- The greatest time received. -/
theorem recv_max {C : Nat} {m : Int} (x : Addr) (w : World) (h : Clk w C m) (hE : w.cell? ⟨0, 0, none⟩ = some (.iface 104 (.pointer (some x)))) :
    Calls Tryd.prog 21 #[.pointer (some ⟨C, 0, none⟩), .int .u64 18446744073709551615] w fun e w' => e = .returned (.tuple #[.int .u64 0, .iface 104 (.pointer (some x))]) ∧ Kept w C m w' := by
  have ht := loop_over (C := C) x w hE
  have ht' : Calls Tryd.prog 37 #[.pointer (some ⟨C, 0, none⟩), .int .u64 18446744073709551615] w fun e w' => e = .returned (.tuple #[.int .u64 0, .iface 104 (.pointer (some x))]) ∧ Kept w C m w' := by
    refine ht.mono ?_
    rintro e w' ⟨rfl, q, rfl⟩
    exact ⟨rfl, h.drewN q, below_drewN (Below.refl _ _) q⟩
  by_cases hm : m < 9223372036854775808
  · exact recv_loop_low w (h.low hm) hm (by omega) (by omega) ht'
  · exact recv_loop_high w (h.high (by omega)) ht'

/-- A clock at the greatest time. -/
theorem recv_full {C : Nat} (f : Int) (x : Addr) (w : World) (h : Clk w C 18446744073709551615) (hl : f < 18446744073709551615) (hE : w.cell? ⟨0, 0, none⟩ = some (.iface 104 (.pointer (some x)))) :
    Calls Tryd.prog 21 #[.pointer (some ⟨C, 0, none⟩), .int .u64 f] w fun e w' => e = .returned (.tuple #[.int .u64 0, .iface 104 (.pointer (some x))]) ∧ Kept w C 18446744073709551615 w' := by
  refine recv_loop_high w (h.high (by omega)) ?_
  refine (loop_full f x w (h.high (by omega)) hl hE).mono ?_
  rintro e w' ⟨rfl, q, rfl⟩
  exact ⟨rfl, h.drewN q, below_drewN (Below.refl _ _) q⟩
end Go.Proofs.Qxb6003346aDoor.Clock
