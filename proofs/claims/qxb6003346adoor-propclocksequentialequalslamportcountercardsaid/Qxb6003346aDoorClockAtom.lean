/-
  sync/atomic.Uint64's four methods, by their contracts.
-/
import Derived.Test.Qxb6003346aDoorChecked
import Derived.WalkKit
import Derived.ProofKit
import Derived.WalkLawsBesides
import Derived.WalkSpells
import Derived.Laws.LoneSync
namespace Go.Proofs.Qxb6003346aDoor.Clock
open Go.RowKit

theorem load30 (C o : Nat) (x : Int) (w : World) (hc : w.cell? ⟨C, o, none⟩ = some (.int .u64 x)) :
    Calls Tryd.prog 30 #[.pointer (some ⟨C, o, none⟩)] w fun e w' => e = .returned (.int .u64 x) ∧ w' = w := by
  have h41 := run_call_load (P := Tryd.prog) (f := 41) Tryd.func41 (by kernel_rfl) (by kernel_rfl) (by kernel_rfl) .u64 (by kernel_rfl) hc
  go_enter Tryd.func30, Tryd.ntmps30
  go_wp2
  go_ret
  exact ⟨rfl, rfl⟩

theorem store40 (C o : Nat) (x : Int) (u : Value) (w : World) (hc : w.cell? ⟨C, o, none⟩ = some u) (hf : w.frozen? ⟨C, o, none⟩ = false) :
    Calls Tryd.prog 40 #[.pointer (some ⟨C, o, none⟩), .int .u64 x] w fun e w' => e = .returned (.tuple #[]) ∧ w' = w.setCell ⟨C, o, none⟩ (.int .u64 x) := by
  have h50 := run_call_store (P := Tryd.prog) (f := 50) Tryd.func50 (by kernel_rfl) (by kernel_rfl) (by kernel_rfl) (by kernel_rfl) (k := .u64) (y := x) hc hf
  go_enter Tryd.func40, Tryd.ntmps40
  go_wp2
  go_end0
  exact ⟨rfl, rfl⟩

theorem cas36 (C o : Nat) (x y : Int) (w : World) (hc : w.cell? ⟨C, o, none⟩ = some (.int .u64 x)) (hf : w.frozen? ⟨C, o, none⟩ = false) :
    Calls Tryd.prog 36 #[.pointer (some ⟨C, o, none⟩), .int .u64 x, .int .u64 y] w fun e w' => e = .returned (.bool true) ∧ w' = w.setCell ⟨C, o, none⟩ (.int .u64 y) := by
  have h45 := run_call_cas_hit (P := Tryd.prog) (f := 45) Tryd.func45 (by kernel_rfl) (by kernel_rfl) (by kernel_rfl) .u64 (by kernel_rfl) (y := y) hc hf
  go_enter Tryd.func36, Tryd.ntmps36
  go_wp2
  go_ret
  exact ⟨rfl, rfl⟩

theorem add32 (C o : Nat) (x y s : Int) (w : World) (hc : w.cell? ⟨C, o, none⟩ = some (.int .u64 x)) (hf : w.frozen? ⟨C, o, none⟩ = false) (hs : IntKind.u64.wrap (x + y) = s) :
    Calls Tryd.prog 32 #[.pointer (some ⟨C, o, none⟩), .int .u64 y] w fun e w' => e = .returned (.int .u64 s) ∧ w' = w.setCell ⟨C, o, none⟩ (.int .u64 s) := by
  have h43 := run_call_add (P := Tryd.prog) (f := 43) Tryd.func43 (by kernel_rfl) (by kernel_rfl) (by kernel_rfl) .u64 (by kernel_rfl) (y := y) (s := s) hc hf (by simp [go_sem, ← hs])
  clear hs
  go_enter Tryd.func32, Tryd.ntmps32
  go_wp2
  go_ret
  exact ⟨rfl, rfl⟩
end Go.Proofs.Qxb6003346aDoor.Clock
