/-
  PropClockSequentialEqualsLamportCounter: the walk.
-/
import Derived.Test.Qxb6003346aDoorClockClk
import Derived.Test.Qxb6003346aDoorClockIs
namespace Go.Proofs.Qxb6003346aDoor.Clock
open Go.RowKit

/-- The slice that begins at a holds these steps, in blocks below B. -/
def Ops (w : World) (B : Nat) (a : Option Addr) (ks : List (Int × Int)) : Prop :=
  ∀ k (_ : k < ks.length), ∃ b off, a = some ⟨b, off, none⟩ ∧ b < B ∧ w.cell? ⟨b, off + k * 2, none⟩ = some (.int .i64 ks[k].1) ∧ w.cell? ⟨b, off + k * 2 + 1, none⟩ = some (.int .u64 ks[k].2) ∧ 0 ≤ ks[k].2 ∧ ks[k].2 ≤ 18446744073709551615

theorem Ops.keep {w w' : World} {B : Nat} {a : Option Addr} {ks : List (Int × Int)} (h : Ops w B a ks) (hb : Below B w w') : Ops w' B a ks := by
  intro k hk
  obtain ⟨b, off, e, hB, h1, h2, r⟩ := h k hk
  exact ⟨b, off, e, hB, by rw [hb.cell (p := ⟨b, off + k * 2, none⟩) hB]; exact h1, by rw [hb.cell (p := ⟨b, off + k * 2 + 1, none⟩) hB]; exact h2, r⟩

set_option maxHeartbeats 1000000 in
theorem bytes16 (s : Int) (a : Option Addr) (n cap : Nat) (w : World) (hm : n ≤ maxLen) :
    Calls Tryd.prog 16 #[.int .u64 s, .slice a n cap] w fun e w' => (∃ t, e = .returned (.bool t)) ∧ w' = w := by
  unfold maxLen at hm
  go_enter Tryd.func16, Tryd.ntmps16
  go_wp2
  all_goals (go_ret; exact ⟨⟨_, rfl⟩, rfl⟩)

set_option maxRecDepth 100000 in
set_option maxHeartbeats 4000000 in
theorem clock_walk (s : Int) (a : Option Addr) (cap : Nat) (ks : List (Int × Int)) (x : Addr) (w : World) (s0 : 0 ≤ s) (s1 : s ≤ 18446744073709551615) (h : Ops w w.heap.size a ks) (hm : ks.length ≤ maxLen)
    (hE : w.cell? ⟨0, 0, none⟩ = some (.iface 104 (.pointer (some x)))) :
    Calls Tryd.prog 5 #[.int .u64 s, .slice a ks.length cap] w fun e w' => e = .returned (.bool true) ∧ Below w.heap.size w w' := by
  have hC : 0 < w.heap.size := World.block_lt_of_cell? w ⟨0, 0, none⟩ hE
  go_enter Tryd.func5, Tryd.ntmps5
  go_wp2_with fail
  refine (bytes16 s a _ cap _ hm).mono ?_
  rintro e w' ⟨⟨t, rfl⟩, rfl⟩
  unfold maxLen at hm
  cases t
  · go_wp2
    go_ret
    exact ⟨rfl, Below.refl _ _⟩
  by_cases l0 : 1048576 < ks.length
  · go_wp2
    go_ret
    exact ⟨rfl, Below.refl _ _⟩
  go_wp2_with fail
  have hA : At (w'.alloc (.cells #[.int .u64 0, .int .u64 0] 45)) w'.heap.size 0 0 := heap_alloc_new w' _
  have hB0 : Below w'.heap.size w' (w'.alloc (.cells #[.int .u64 0, .int .u64 0] 45)) := (Below.refl _ _).alloc (Nat.le_refl _) _
  refine (set_any s _ hA).mono ?_
  rintro e w1 ⟨rfl, hK1⟩
  have hB1 : Below w'.heap.size w' w1 := hB0.trans hK1.2
  have hclk : Clk w1 w'.heap.size s := hK1.1
  clear hA hB0 hK1
  obtain ⟨C, hCC⟩ : ∃ C, C = w'.heap.size := ⟨_, rfl⟩
  rw [← hCC] at hC h hB1 hclk
  rw [← hCC]
  have HCC : Hid (C = w'.heap.size) := hCC
  clear hCC hm
  have hl : ks.length ≤ 1048576 := by omega
  go_wp2_with fail
  refine (now_any _ hclk).mono ?_
  rintro e w2 ⟨rfl, rfl⟩
  go_wp2_with fail
  go_loopw [6, 7] (fun c i wr => ∃ (k : Nat) (m : Int), k ≤ ks.length ∧ i = .int .i64 k ∧ c = .int .u64 m ∧ 0 ≤ m ∧ m ≤ 18446744073709551615 ∧ Clk wr C m ∧ Below C w' wr) (fun _ i _ => ks.length - (intOf i).toNat)
  case atStart => exact ⟨0, s, Nat.zero_le _, rfl, rfl, s0, s1, hclk, hB1⟩
  case round =>
    obtain ⟨k, m, hk, rfl, rfl, m0, m1, hM, hBr⟩ := hrel
    by_cases hlt : k < ks.length
    · obtain ⟨b, off, rfl, hbC, hc1, hc2, f0, f1⟩ := (h.keep hBr) k hlt
      have hEr : wr.cell? ⟨0, 0, none⟩ = some (.iface 104 (.pointer (some x))) := by rw [hBr.cell (p := ⟨0, 0, none⟩) hC]; exact hE
      obtain ⟨kd, hkd⟩ : ∃ kd, kd = ks[k].1 := ⟨_, rfl⟩
      obtain ⟨f, hf⟩ : ∃ f, f = ks[k].2 := ⟨_, rfl⟩
      rw [← hkd] at hc1
      rw [← hf] at hc2 f0 f1
      clear hkd hf h hE hclk hB1 s0 s1
      by_cases e0 : kd = 0
      · subst e0
        by_cases hmx : m < 18446744073709551615
        · have hne : (m == 18446744073709551615) = false := by simp; omega
          go_wp2_with fail
          refine (tick_ok _ hM m0 hmx).mono ?_
          rintro e w3 ⟨rfl, hK⟩
          go_wp2_with fail
          refine (now_any _ hK.1).mono ?_
          rintro e w4 ⟨rfl, rfl⟩
          go_wp2
          go_roundw
          case rel => exact ⟨k + 1, _, by omega, by go_num, rfl, by omega, by omega, hK.1, hBr.trans hK.2⟩
          case measure => simp [intOf]; omega
        · obtain rfl : m = 18446744073709551615 := by omega
          go_wp2_with fail
          refine (tick_max x _ hM hC hEr).mono ?_
          rintro e w3 ⟨rfl, hK⟩
          have hE3 : w3.cell? ⟨0, 0, none⟩ = some (.iface 104 (.pointer (some x))) := by rw [hK.2.cell (p := ⟨0, 0, none⟩) hC]; exact hEr
          go_wp2_with fail
          refine (is_same x _).mono ?_
          rintro e w4 ⟨rfl, rfl⟩
          go_wp2_with fail
          refine (now_any _ hK.1).mono ?_
          rintro e w5 ⟨rfl, rfl⟩
          go_wp2
          go_roundw
          case rel => exact ⟨k + 1, _, by omega, by go_num, rfl, by omega, by omega, hK.1, hBr.trans hK.2⟩
          case measure => simp [intOf]; omega
      by_cases e1 : kd = 1
      · subst e1
        by_cases hfx : f < 18446744073709551615
        · by_cases hfm : f ≤ m
          · by_cases hmx : m < 18446744073709551615
            · have hne : (m == 18446744073709551615) = false := by simp; omega
              go_wp2_with fail
              refine (recv_own f _ hM m0 hmx hfm).mono ?_
              rintro e w3 ⟨rfl, hK⟩
              go_wp2_with fail
              refine (now_any _ hK.1).mono ?_
              rintro e w4 ⟨rfl, rfl⟩
              go_wp2
              go_roundw
              case rel => exact ⟨k + 1, _, by omega, by go_num, rfl, by omega, by omega, hK.1, hBr.trans hK.2⟩
              case measure => simp [intOf]; omega
            · obtain rfl : m = 18446744073709551615 := by omega
              go_wp2_with fail
              refine (recv_full f x _ hM hfx hEr).mono ?_
              rintro e w3 ⟨rfl, hK⟩
              have hE3 : w3.cell? ⟨0, 0, none⟩ = some (.iface 104 (.pointer (some x))) := by rw [hK.2.cell (p := ⟨0, 0, none⟩) hC]; exact hEr
              go_wp2_with fail
              refine (is_same x _).mono ?_
              rintro e w4 ⟨rfl, rfl⟩
              go_wp2_with fail
              refine (now_any _ hK.1).mono ?_
              rintro e w5 ⟨rfl, rfl⟩
              go_wp2
              go_roundw
              case rel => exact ⟨k + 1, _, by omega, by go_num, rfl, by omega, by omega, hK.1, hBr.trans hK.2⟩
              case measure => simp [intOf]; omega
          · have hne : (f == 18446744073709551615) = false := by simp; omega
            have hmf : m < f := by omega
            go_wp2_with fail
            refine (recv_new f _ hM m0 hmf hfx).mono ?_
            rintro e w3 ⟨rfl, hK⟩
            go_wp2_with fail
            refine (now_any _ hK.1).mono ?_
            rintro e w4 ⟨rfl, rfl⟩
            go_wp2
            go_roundw
            case rel => exact ⟨k + 1, _, by omega, by go_num, rfl, by omega, by omega, hK.1, hBr.trans hK.2⟩
            case measure => simp [intOf]; omega
        · obtain rfl : f = 18446744073709551615 := by omega
          by_cases hmx : m < 18446744073709551615
          · go_wp2_with fail
            refine (recv_max x _ hM hEr).mono ?_
            rintro e w3 ⟨rfl, hK⟩
            have hE3 : w3.cell? ⟨0, 0, none⟩ = some (.iface 104 (.pointer (some x))) := by rw [hK.2.cell (p := ⟨0, 0, none⟩) hC]; exact hEr
            go_wp2_with fail
            refine (is_same x _).mono ?_
            rintro e w4 ⟨rfl, rfl⟩
            go_wp2_with fail
            refine (now_any _ hK.1).mono ?_
            rintro e w5 ⟨rfl, rfl⟩
            go_wp2
            go_roundw
            case rel => exact ⟨k + 1, _, by omega, by go_num, rfl, by omega, by omega, hK.1, hBr.trans hK.2⟩
            case measure => simp [intOf]; omega
          · obtain rfl : m = 18446744073709551615 := by omega
            go_wp2_with fail
            refine (recv_max x _ hM hEr).mono ?_
            rintro e w3 ⟨rfl, hK⟩
            have hE3 : w3.cell? ⟨0, 0, none⟩ = some (.iface 104 (.pointer (some x))) := by rw [hK.2.cell (p := ⟨0, 0, none⟩) hC]; exact hEr
            go_wp2_with fail
            refine (is_same x _).mono ?_
            rintro e w4 ⟨rfl, rfl⟩
            go_wp2_with fail
            refine (now_any _ hK.1).mono ?_
            rintro e w5 ⟨rfl, rfl⟩
            go_wp2
            go_roundw
            case rel => exact ⟨k + 1, _, by omega, by go_num, rfl, by omega, by omega, hK.1, hBr.trans hK.2⟩
            case measure => simp [intOf]; omega
      · have g0 : (kd == 0) = false := beq_eq_false_iff_ne.2 e0
        have g1 : (kd == 1) = false := beq_eq_false_iff_ne.2 e1
        clear e0 e1
        go_wp2_with fail
        refine (now_any _ hM).mono ?_
        rintro e w3 ⟨rfl, rfl⟩
        go_wp2
        go_roundw
        case rel => exact ⟨k + 1, m, by omega, by go_num, rfl, m0, m1, hM, hBr⟩
        case measure => simp [intOf]; omega
    · go_wp2
      go_ret
      exact ⟨rfl, HCC.out ▸ hBr⟩
end Go.Proofs.Qxb6003346aDoor.Clock
