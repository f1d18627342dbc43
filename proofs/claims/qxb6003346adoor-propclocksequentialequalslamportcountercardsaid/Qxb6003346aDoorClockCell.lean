/-
  A Clock in memory: its two words, and sync/atomic's methods on them.
-/
import Derived.Test.Qxb6003346aDoorClockAtom
namespace Go.Proofs.Qxb6003346aDoor.Clock
open Go.RowKit

/-- Block C is a Clock: its word 'now' is a, its word 'high' is b. -/
def At (w : World) (C : Nat) (a b : Int) : Prop := w.heap[C]? = some (.cells #[.int .u64 a, .int .u64 b] 45 (0, 0))

theorem At.c0 {w : World} {C : Nat} {a b : Int} (h : At w C a b) : w.cell? ⟨C, 0, none⟩ = some (.int .u64 a) := by
  unfold At at h
  simp [World.cell?, h]
theorem At.c1 {w : World} {C : Nat} {a b : Int} (h : At w C a b) : w.cell? ⟨C, 1, none⟩ = some (.int .u64 b) := by
  unfold At at h
  simp [World.cell?, h]
theorem At.f0 {w : World} {C : Nat} {a b : Int} (h : At w C a b) : w.frozen? ⟨C, 0, none⟩ = false := by
  unfold At at h
  simp [World.frozen?, h]
theorem At.f1 {w : World} {C : Nat} {a b : Int} (h : At w C a b) : w.frozen? ⟨C, 1, none⟩ = false := by
  unfold At at h
  simp [World.frozen?, h]
theorem At.set0 {w : World} {C : Nat} {a b : Int} (h : At w C a b) (x : Int) : At (w.setCell ⟨C, 0, none⟩ (.int .u64 x)) C x b := by
  unfold At at h ⊢
  rw [heap_setCell_same w C 0 _ _ _ h]
  rfl
theorem At.set1 {w : World} {C : Nat} {a b : Int} (h : At w C a b) (x : Int) : At (w.setCell ⟨C, 1, none⟩ (.int .u64 x)) C a x := by
  unfold At at h ⊢
  rw [heap_setCell_same w C 1 _ _ _ h]
  rfl
theorem At.drewN {w : World} {C : Nat} {a b : Int} (h : At w C a b) (q : Nat) : At (w.drewN q) C a b := h

theorem touch (w : World) (C o : Nat) (v : Value) : Below C w (w.setCell ⟨C, o, none⟩ v) := (Below.refl C w).setCell (p := ⟨C, o, none⟩) (Nat.le_refl C) v

/-- The world behind a write to the clock alone. -/
def Turned (w : World) (C : Nat) (a b : Int) (w' : World) : Prop := At w' C a b ∧ Below C w w'

theorem load0 {C : Nat} {a b : Int} (w : World) (h : At w C a b) :
    Calls Tryd.prog 30 #[.pointer (some ⟨C, 0, none⟩)] w fun e w' => e = .returned (.int .u64 a) ∧ w' = w := load30 C 0 a w h.c0
theorem load1 {C : Nat} {a b : Int} (w : World) (h : At w C a b) :
    Calls Tryd.prog 30 #[.pointer (some ⟨C, 1, none⟩)] w fun e w' => e = .returned (.int .u64 b) ∧ w' = w := load30 C 1 b w h.c1
theorem store0 {C : Nat} {a b : Int} (x : Int) (w : World) (h : At w C a b) :
    Calls Tryd.prog 40 #[.pointer (some ⟨C, 0, none⟩), .int .u64 x] w fun e w' => e = .returned (.tuple #[]) ∧ Turned w C x b w' := by
  refine (store40 C 0 x _ w h.c0 h.f0).mono ?_
  rintro e w' ⟨rfl, rfl⟩
  exact ⟨rfl, h.set0 x, touch _ _ _ _⟩
theorem store1 {C : Nat} {a b : Int} (x : Int) (w : World) (h : At w C a b) :
    Calls Tryd.prog 40 #[.pointer (some ⟨C, 1, none⟩), .int .u64 x] w fun e w' => e = .returned (.tuple #[]) ∧ Turned w C a x w' := by
  refine (store40 C 1 x _ w h.c1 h.f1).mono ?_
  rintro e w' ⟨rfl, rfl⟩
  exact ⟨rfl, h.set1 x, touch _ _ _ _⟩
theorem cas0 {C : Nat} {a b : Int} (y : Int) (w : World) (h : At w C a b) :
    Calls Tryd.prog 36 #[.pointer (some ⟨C, 0, none⟩), .int .u64 a, .int .u64 y] w fun e w' => e = .returned (.bool true) ∧ Turned w C y b w' := by
  refine (cas36 C 0 a y w h.c0 h.f0).mono ?_
  rintro e w' ⟨rfl, rfl⟩
  exact ⟨rfl, h.set0 y, touch _ _ _ _⟩
theorem cas1 {C : Nat} {a b : Int} (y : Int) (w : World) (h : At w C a b) :
    Calls Tryd.prog 36 #[.pointer (some ⟨C, 1, none⟩), .int .u64 b, .int .u64 y] w fun e w' => e = .returned (.bool true) ∧ Turned w C a y w' := by
  refine (cas36 C 1 b y w h.c1 h.f1).mono ?_
  rintro e w' ⟨rfl, rfl⟩
  exact ⟨rfl, h.set1 y, touch _ _ _ _⟩
theorem add0 {C : Nat} {a b : Int} (y s : Int) (w : World) (h : At w C a b) (hs : IntKind.u64.wrap (a + y) = s) :
    Calls Tryd.prog 32 #[.pointer (some ⟨C, 0, none⟩), .int .u64 y] w fun e w' => e = .returned (.int .u64 s) ∧ Turned w C s b w' := by
  refine (add32 C 0 a y s w h.c0 h.f0 hs).mono ?_
  rintro e w' ⟨rfl, rfl⟩
  exact ⟨rfl, h.set0 s, touch _ _ _ _⟩

/-! ### highTime, Now, set -/
set_option maxHeartbeats 1000000 in
theorem highTime31 {C : Nat} {a b : Int} (w : World) (h : At w C a b) (hb : (b != 0) = true) :
    Calls Tryd.prog 31 #[.pointer (some ⟨C, 0, none⟩)] w fun e w' => e = .returned (.int .u64 b) ∧ w' = w := by
  go_enter Tryd.func31, Tryd.ntmps31
  go_wp2_with fail
  refine wp_loop_rounds 1 ?_
  rw [rounds_succ]
  go_wp2_with fail
  refine (load1 _ h).mono ?_
  rintro e w' ⟨rfl, rfl⟩
  go_wp2
  go_ret
  exact ⟨rfl, rfl⟩

set_option maxHeartbeats 1000000 in
theorem now_low {C : Nat} {m b : Int} (w : World) (h : At w C m b) (hm : m < 9223372036854775808) :
    Calls Tryd.prog 18 #[.pointer (some ⟨C, 0, none⟩)] w fun e w' => e = .returned (.int .u64 m) ∧ w' = w := by
  go_enter Tryd.func18, Tryd.ntmps18
  go_wp2_with fail
  refine (load0 _ h).mono ?_
  rintro e w' ⟨rfl, rfl⟩
  go_wp2
  go_ret
  exact ⟨rfl, rfl⟩

set_option maxHeartbeats 1000000 in
theorem now_high {C : Nat} {a m : Int} (w : World) (h : At w C a m) (ha : ¬ a < 9223372036854775808) (hm : (m != 0) = true) :
    Calls Tryd.prog 18 #[.pointer (some ⟨C, 0, none⟩)] w fun e w' => e = .returned (.int .u64 m) ∧ w' = w := by
  go_enter Tryd.func18, Tryd.ntmps18
  go_wp2_with fail
  refine (load0 _ h).mono ?_
  rintro e w' ⟨rfl, rfl⟩
  go_wp2_with fail
  refine (highTime31 _ h hm).mono ?_
  rintro e w2 ⟨rfl, rfl⟩
  go_wp2
  go_ret
  exact ⟨rfl, rfl⟩

end Go.Proofs.Qxb6003346aDoor.Clock
