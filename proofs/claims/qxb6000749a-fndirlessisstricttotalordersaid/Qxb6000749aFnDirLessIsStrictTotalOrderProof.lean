/-
  'Rows.FnDirLessIsStrictTotalOrderSaid', proved. The frame is the kit's shell (proof-skeleton.mjs); the walk and the ways are ours.
-/
import Derived.Test.Qxb6000749aRows
import Derived.Test.Qxb6000749aDirWalks
import Derived.WalkKit
import Derived.ProofKit
import Derived.OpenShut
import Derived.ShutString
namespace Go.Proofs.Qxb6000749a.fnDirLessIsStrictTotalOrder
open Go.ChangeShapes Go.WideShapes Go.ChangeAt Go.RowKit
open Go.ChangeMaps (open_string shut_string)
set_option linter.unusedVariables false      -- a walk need not use every 'w<i>' (that an integer argument fits its kind)

theorem own : ownKnob Try.prog.godebug = none := by kernel_rfl

/-! ### STEP 1: THE WALK: the Go text returns true. 'Grown w w'': the world has at most new blocks (Derived/RowKit3.lean). Part the cases AHEAD of 'go_enter' where a test parts the walk; take each callee by a contract of your own. -/
set_option maxHeartbeats 1000000 in
theorem bytes18 (a b c : ByteArray) (w : World) (w0 : a.size ≤ maxLen) (w1 : b.size ≤ maxLen) (w2 : c.size ≤ maxLen) :
    Calls Try.prog 18 #[.string a, .string b, .string c] w fun e w' => (∃ t, e = .returned (.bool t)) ∧ w' = w := by
  unfold maxLen at w0 w1 w2
  go_enter Try.func18, Try.ntmps18
  go_wp2
  all_goals (go_ret; exact ⟨⟨_, rfl⟩, rfl⟩)

/-- The four ways through the law. -/
theorem ways (a b c : ByteArray) :
    (Dir.sl a.data.toList b.data.toList = true ∧ Dir.sl b.data.toList a.data.toList = false ∧ (a.toList == b.toList) = false ∧ Dir.sl b.data.toList c.data.toList = true ∧ Dir.sl a.data.toList c.data.toList = true) ∨
    (Dir.sl a.data.toList b.data.toList = true ∧ Dir.sl b.data.toList a.data.toList = false ∧ (a.toList == b.toList) = false ∧ Dir.sl b.data.toList c.data.toList = false) ∨
    (Dir.sl a.data.toList b.data.toList = false ∧ Dir.sl b.data.toList a.data.toList = true ∧ (a.toList == b.toList) = false) ∨
    (Dir.sl a.data.toList b.data.toList = false ∧ Dir.sl b.data.toList a.data.toList = false ∧ (a.toList == b.toList) = true) := by
  rw [Lib.toList_data, Lib.toList_data]
  by_cases e : a.data.toList = b.data.toList
  · exact .inr (.inr (.inr ⟨by rw [e]; exact Dir.sl_self _, by rw [e]; exact Dir.sl_self _, by simp [e]⟩))
  · have e' : (a.data.toList == b.data.toList) = false := beq_eq_false_iff_ne.2 e
    cases ab : Dir.sl a.data.toList b.data.toList with
    | false => exact .inr (.inr (.inl ⟨rfl, Dir.sl_total _ _ e ab, e'⟩))
    | true =>
      cases bc : Dir.sl b.data.toList c.data.toList with
      | false => exact .inr (.inl ⟨rfl, Dir.sl_asym _ _ ab, e', rfl⟩)
      | true => exact .inl ⟨rfl, Dir.sl_asym _ _ ab, e', rfl, Dir.sl_trans _ _ _ ab bc⟩

set_option maxHeartbeats 1000000 in
theorem walk (a0 : ByteArray) (a1 : ByteArray) (a2 : ByteArray) (w0 : a0.size ≤ maxLen) (w1 : a1.size ≤ maxLen) (w2 : a2.size ≤ maxLen) (w : World) :
    Calls Try.prog 6 #[.string a0, .string a1, .string a2] w fun e w' => e = .returned (.bool true) ∧ Grown w w' := by
  have hself := Dir.sl_self a0.data.toList
  go_enter Try.func6, Try.ntmps6
  go_wp2_with fail
  refine (bytes18 _ _ _ _ w0 w1 w2).mono ?_
  unfold maxLen at w0 w1 w2
  rintro e w' ⟨⟨t, rfl⟩, rfl⟩
  cases t
  · go_wp2
    go_ret
    exact ⟨rfl, Grown.refl _⟩
  by_cases l0 : 262144 < a0.size
  · go_wp2
    go_ret
    exact ⟨rfl, Grown.refl _⟩
  by_cases l1 : 262144 < a1.size
  · go_wp2
    go_ret
    exact ⟨rfl, Grown.refl _⟩
  by_cases l2 : 262144 < a2.size
  · go_wp2
    go_ret
    exact ⟨rfl, Grown.refl _⟩
  rcases ways a0 a1 a2 with ⟨x1, x2, x3, x4, x5⟩ | ⟨x1, x2, x3, x4⟩ | ⟨x1, x2, x3⟩ | ⟨x1, x2, x3⟩
  all_goals
    go_wp2_with fail
    refine (Dir.less_any _ _ _).mono ?_
    rintro e w1 ⟨rfl, g1⟩
    go_wp2_with fail
    refine (Dir.less_any _ _ _).mono ?_
    rintro e w2 ⟨rfl, g2⟩
    go_wp2_with fail
    refine (Dir.less_any _ _ _).mono ?_
    rintro e w3 ⟨rfl, g3⟩
    go_wp2_with fail
    refine (Dir.less_any _ _ _).mono ?_
    rintro e w4 ⟨rfl, g4⟩
    go_wp2_with fail
    refine (Dir.less_any _ _ _).mono ?_
    rintro e w5 ⟨rfl, g5⟩
    have G : Hid (Grown w' w5) := Dir.grown_next (Dir.grown_next (Dir.grown_next (Dir.grown_next g1 g2) g3) g4) g5
    clear g1 g2 g3 g4 g5
    go_wp2
    go_ret
    exact ⟨rfl, G.out⟩

/-! ### THE ROW's STEP: WRITTEN OUT: LEAVE IT -/
set_option maxRecDepth 100000 in
theorem lifted (os : Os) (started : os.Started) (H : Type) (enc : TypeId × Value → H) :
    ReturnsInHanded {} Try.checked os 6 .any (Rows.fnDirLessIsStrictTotalOrderSpec.pre6 enc Try.prog Try.f6 Rows.fnDirLessIsStrictTotalOrderRow.domain false) (Rows.fnDirLessIsStrictTotalOrderSpec.post enc Try.prog Try.f6 false true false false) := by
  refine returnsInHanded_of_change (C := Try.checked) own started (by kernel_rfl) Try.func6
    (ChangeSpec.witness6 (enc := enc) (C := Try.checked) false ⟨#[], #[.string ByteArray.empty, .string ByteArray.empty, .string ByteArray.empty], []⟩ 8 (by kernel_rfl) (by kernel_rfl) (by kernel_rfl) (by kernel_rfl)) ?_
  intro W base args ds gs before hval0 hW hcnd _
  have hval : ∀ (j : Nat) t v, Try.f6.params[j]? = some t → args[j]? = some v → Value.okWide Try.prog W .any base t v := hval0
  have hW' := hW
  obtain ⟨p, q, hA0, hV, rfl, hfz, hnd⟩ := hW
  have hA : DataW.TrodAll enc Try.prog W 0 (fun _ => true) true Try.f6.params.toList args.toList ds p := hA0
  rw [Try.params6] at hA hval
  obtain ⟨v0, vs0, d0, ds0, p0, q0, hargs, rfl, rfl, h0, r0⟩ := trodAll_cons hA
  obtain ⟨v1, vs1, d1, ds1, p1, q1, rfl, rfl, rfl, h1, r1⟩ := trodAll_cons r0
  obtain ⟨v2, vs2, d2, ds2, p2, q2, rfl, rfl, rfl, h2, r2⟩ := trodAll_cons r1
  obtain ⟨rfl, rfl, rfl⟩ := trodAll_nil r2
  obtain rfl : args = #[v0, v1, v2] := by cases args; simp_all
  obtain ⟨rfl, rfl⟩ := trodVars_none hV
  obtain ⟨a0, rfl, rfl, rfl, w0⟩ := open_string Try.underlying9 (hval 0 9 v0 rfl rfl) h0
  obtain ⟨a1, rfl, rfl, rfl, w1⟩ := open_string Try.underlying9 (hval 1 9 v1 rfl rfl) h1
  obtain ⟨a2, rfl, rfl, rfl, w2⟩ := open_string Try.underlying9 (hval 2 9 v2 rfl rfl) h2
  clear hA0 hval0
  simp only [List.append_nil] at hW'
  refine (walk a0 a1 a2 w0 w1 w2 W).mono fun e W' ⟨he, hg⟩ => ?_
  subst he
  exact ⟨_, rfl, post_of_same (pa := []) (pv := []) hW' (fun _ _ _ => (trodAll_cons_mk (shut_bool Try.underlying4 _) trodAll_mk0)) (fun sp _ => (trodAll_cons_mk (shut_string Try.underlying9 w0) (trodAll_cons_mk (shut_string Try.underlying9 w1) (trodAll_cons_mk (shut_string Try.underlying9 w2) trodAll_mk0)))) (fun _ _ => rfl) rfl
    (hg.frame _) hg.2.1 (ok_one (by kernel_rfl) rfl (okWide_bool_mk Try.underlying4 _))⟩

theorem over : Rows.fnDirLessIsStrictTotalOrderRow.holds Try.pinned (OpenSpec.ofChange Rows.fnDirLessIsStrictTotalOrderSpec) :=
  OpenClaim.holds_of_wide 6 Try.f6 rfl rfl rfl rfl rfl rfl rfl ⟨rfl, rfl, rfl, rfl, rfl⟩ rfl rfl rfl rfl rfl (by kernel_rfl) Try.func6 (by kernel_rfl)
    (of_decide_eq_true (by kernel_rfl)) (by unfold Func.isWrapper; first | (rw [if_pos (by decide +kernel)]; kernel_rfl) | (rw [if_neg (by decide +kernel)]; exact ⟨rfl, rfl⟩))
    (fun os started H enc _ => lifted os started H enc)

/-- ████ THE STATEMENT ████ -/
theorem proved : Rows.FnDirLessIsStrictTotalOrderSaid :=
  over
#print axioms proved
end Go.Proofs.Qxb6000749a.fnDirLessIsStrictTotalOrder
