/-
  'Rows.FnDirLessKeepsSubtreesTogetherSaid', proved. The frame is the kit's shell (proof-skeleton.mjs); the walk is ours.
-/
import Derived.Test.Qxb6000749aRows
import Derived.Test.Qxb6000749aDirHas
import Derived.WalkKit
import Derived.ProofKit
import Derived.OpenShut
import Derived.ShutString
namespace Go.Proofs.Qxb6000749a.fnDirLessKeepsSubtreesTogether
open Go.ChangeShapes Go.WideShapes Go.ChangeAt Go.RowKit
open Go.ChangeMaps (open_string shut_string)
set_option linter.unusedVariables false      -- a walk need not use every 'w<i>' (that an integer argument fits its kind)

theorem own : ownKnob Try.prog.godebug = none := by kernel_rfl

/-! ### STEP 1: THE WALK: the Go text returns true. 'Grown w w'': the world has at most new blocks (Derived/RowKit3.lean). Part the cases AHEAD of 'go_enter' where a test parts the walk; take each callee by a contract of your own. -/
set_option maxHeartbeats 1000000 in
theorem bytes19 (a b c d : ByteArray) (w : World) (w0 : a.size ≤ maxLen) (w1 : b.size ≤ maxLen) (w2 : c.size ≤ maxLen) (w3 : d.size ≤ maxLen) :
    Calls Try.prog 19 #[.string a, .string b, .string c, .string d] w fun e w' => (∃ t, e = .returned (.bool t)) ∧ w' = w := by
  unfold maxLen at w0 w1 w2 w3
  go_enter Try.func19, Try.ntmps19
  go_wp2
  all_goals (go_ret; exact ⟨⟨_, rfl⟩, rfl⟩)

theorem app (a b : ByteArray) : (a ++ b).data.toList = a.data.toList ++ b.data.toList := by
  rw [ByteArray.data_append, Array.toList_append]

theorem longer1 (a s : ByteArray) (h : s.toList.isEmpty = false) : Dir.sl (a ++ s).data.toList a.data.toList = true := by
  rw [app]
  refine Dir.sl_longer _ _ ?_
  rw [Lib.toList_data] at h
  intro e
  rw [e] at h
  simp at h

theorem longer2 (a s : ByteArray) (h : s.toList.isEmpty = false) : Dir.sl a.data.toList (a ++ s).data.toList = false :=
  Dir.sl_asym _ _ (longer1 a s h)

/-- The three ways through the law's last test. -/
theorem ways (a s b t : ByteArray) :
    (Lib.hasPrefix a.data.toList b.data.toList = true ∧ True) ∨
    (Lib.hasPrefix a.data.toList b.data.toList = false ∧ Lib.hasPrefix b.data.toList a.data.toList = true ∧ True) ∨
    (Lib.hasPrefix a.data.toList b.data.toList = false ∧ Lib.hasPrefix b.data.toList a.data.toList = false ∧ Hid (Dir.sl (a ++ s).data.toList (b ++ t).data.toList = Dir.sl a.data.toList b.data.toList)) := by
  cases h1 : Lib.hasPrefix a.data.toList b.data.toList with
  | true => exact .inl ⟨rfl, trivial⟩
  | false =>
    cases h2 : Lib.hasPrefix b.data.toList a.data.toList with
    | true => exact .inr (.inl ⟨rfl, rfl, trivial⟩)
    | false =>
      refine .inr (.inr ⟨rfl, rfl, ?_⟩)
      show Dir.sl (a ++ s).data.toList (b ++ t).data.toList = Dir.sl a.data.toList b.data.toList
      rw [app, app]
      exact Dir.sl_apart _ _ _ _ (by simp [h1]) (by simp [h2])

set_option maxHeartbeats 2000000 in
theorem walk (a0 : ByteArray) (a1 : ByteArray) (a2 : ByteArray) (a3 : ByteArray) (w0 : a0.size ≤ maxLen) (w1 : a1.size ≤ maxLen) (w2 : a2.size ≤ maxLen) (w3 : a3.size ≤ maxLen) (w : World) :
    Calls Try.prog 7 #[.string a0, .string a1, .string a2, .string a3] w fun e w' => e = .returned (.bool true) ∧ Grown w w' := by
  have v0 : Hid (a0.size ≤ maxLen) := w0
  have v2 : Hid (a2.size ≤ maxLen) := w2
  go_enter Try.func7, Try.ntmps7
  go_wp2_with fail
  refine (bytes19 _ _ _ _ _ w0 w1 w2 w3).mono ?_
  unfold maxLen at w0 w1 w2 w3
  rintro e w' ⟨⟨t, rfl⟩, rfl⟩
  cases t
  · go_wp2
    go_ret
    exact ⟨rfl, Grown.refl _⟩
  by_cases l0 : 262144 < a0.size
  · go_wp2
    go_ret
    exact ⟨rfl, Grown.refl _⟩
  by_cases l1 : 262144 < a1.size
  · go_wp2
    go_ret
    exact ⟨rfl, Grown.refl _⟩
  by_cases l2 : 262144 < a2.size
  · go_wp2
    go_ret
    exact ⟨rfl, Grown.refl _⟩
  by_cases l3 : 262144 < a3.size
  · go_wp2
    go_ret
    exact ⟨rfl, Grown.refl _⟩
  have a01 : a0.size + a1.size ≤ 9223372036854775807 := by omega
  have a23 : a2.size + a3.size ≤ 9223372036854775807 := by omega
  have pre := ways a0 a1 a2 a3
  cases es : a1.toList.isEmpty
  · have f1 : Hid (Dir.sl (a0 ++ a1).data.toList a0.data.toList = true) := longer1 a0 a1 es
    have f2 : Hid (Dir.sl a0.data.toList (a0 ++ a1).data.toList = false) := longer2 a0 a1 es
    go_wp2_with fail
    refine (Dir.less_any _ _ _).mono ?_
    rintro e w4 ⟨rfl, g1⟩
    rw [f1.out]
    go_wp2_with fail
    refine (Dir.less_any _ _ _).mono ?_
    rintro e w5 ⟨rfl, g2⟩
    rw [f2.out]
    have G : Hid (Grown w' w5) := Dir.grown_next g1 g2
    clear g1 g2 f1 f2
    rcases pre with ⟨x1, x2⟩ | ⟨x1, x2, x3⟩ | ⟨x1, x2, x3⟩
    · go_wp2_with fail
      refine (Dir.has_any _ _ _ v0.out).mono ?_
      rintro e w4 ⟨rfl, q1, rfl⟩
      rw [x1]
      go_wp2
      go_ret
      exact ⟨rfl, Dir.grown_drewN G.out q1⟩
    · go_wp2_with fail
      refine (Dir.has_any _ _ _ v0.out).mono ?_
      rintro e w4 ⟨rfl, q1, rfl⟩
      rw [x1]
      go_wp2_with fail
      refine (Dir.has_any _ _ _ v2.out).mono ?_
      rintro e w5 ⟨rfl, q2, rfl⟩
      rw [x2]
      go_wp2
      go_ret
      exact ⟨rfl, Dir.grown_drewN (Dir.grown_drewN G.out q1) q2⟩
    · go_wp2_with fail
      refine (Dir.has_any _ _ _ v0.out).mono ?_
      rintro e w4 ⟨rfl, q1, rfl⟩
      rw [x1]
      go_wp2_with fail
      refine (Dir.has_any _ _ _ v2.out).mono ?_
      rintro e w5 ⟨rfl, q2, rfl⟩
      rw [x2]
      have G2 : Hid (Grown w' _) := Dir.grown_drewN (Dir.grown_drewN G.out q1) q2
      go_wp2_with fail
      refine (Dir.less_any _ _ _).mono ?_
      rintro e w6 ⟨rfl, g6⟩
      rw [x3.out]
      have G3 : Hid (Grown w' w6) := Dir.grown_next G2.out g6
      clear g6
      go_wp2_with fail
      refine (Dir.less_any _ _ _).mono ?_
      rintro e w7 ⟨rfl, g7⟩
      have G4 : Hid (Grown w' w7) := Dir.grown_next G3.out g7
      clear g7
      go_wp2
      go_ret
      exact ⟨rfl, G4.out⟩
  · have G : Hid (Grown w' w') := Grown.refl _
    rcases pre with ⟨x1, x2⟩ | ⟨x1, x2, x3⟩ | ⟨x1, x2, x3⟩
    · go_wp2_with fail
      refine (Dir.has_any _ _ _ v0.out).mono ?_
      rintro e w4 ⟨rfl, q1, rfl⟩
      rw [x1]
      go_wp2
      go_ret
      exact ⟨rfl, Dir.grown_drewN G.out q1⟩
    · go_wp2_with fail
      refine (Dir.has_any _ _ _ v0.out).mono ?_
      rintro e w4 ⟨rfl, q1, rfl⟩
      rw [x1]
      go_wp2_with fail
      refine (Dir.has_any _ _ _ v2.out).mono ?_
      rintro e w5 ⟨rfl, q2, rfl⟩
      rw [x2]
      go_wp2
      go_ret
      exact ⟨rfl, Dir.grown_drewN (Dir.grown_drewN G.out q1) q2⟩
    · go_wp2_with fail
      refine (Dir.has_any _ _ _ v0.out).mono ?_
      rintro e w4 ⟨rfl, q1, rfl⟩
      rw [x1]
      go_wp2_with fail
      refine (Dir.has_any _ _ _ v2.out).mono ?_
      rintro e w5 ⟨rfl, q2, rfl⟩
      rw [x2]
      have G2 : Hid (Grown w' _) := Dir.grown_drewN (Dir.grown_drewN G.out q1) q2
      go_wp2_with fail
      refine (Dir.less_any _ _ _).mono ?_
      rintro e w6 ⟨rfl, g6⟩
      rw [x3.out]
      have G3 : Hid (Grown w' w6) := Dir.grown_next G2.out g6
      clear g6
      go_wp2_with fail
      refine (Dir.less_any _ _ _).mono ?_
      rintro e w7 ⟨rfl, g7⟩
      have G4 : Hid (Grown w' w7) := Dir.grown_next G3.out g7
      clear g7
      go_wp2
      go_ret
      exact ⟨rfl, G4.out⟩

/-! ### THE ROW's STEP: WRITTEN OUT: LEAVE IT -/
set_option maxRecDepth 100000 in
theorem lifted (os : Os) (started : os.Started) (H : Type) (enc : TypeId × Value → H) :
    ReturnsInHanded {} Try.checked os 7 .any (Rows.fnDirLessKeepsSubtreesTogetherSpec.pre6 enc Try.prog Try.f7 Rows.fnDirLessKeepsSubtreesTogetherRow.domain false) (Rows.fnDirLessKeepsSubtreesTogetherSpec.post enc Try.prog Try.f7 false true false false) := by
  refine returnsInHanded_of_change (C := Try.checked) own started (by kernel_rfl) Try.func7
    (ChangeSpec.witness6 (enc := enc) (C := Try.checked) false ⟨#[], #[.string ByteArray.empty, .string ByteArray.empty, .string ByteArray.empty, .string ByteArray.empty], []⟩ 8 (by kernel_rfl) (by kernel_rfl) (by kernel_rfl) (by kernel_rfl)) ?_
  intro W base args ds gs before hval0 hW hcnd _
  have hval : ∀ (j : Nat) t v, Try.f7.params[j]? = some t → args[j]? = some v → Value.okWide Try.prog W .any base t v := hval0
  have hW' := hW
  obtain ⟨p, q, hA0, hV, rfl, hfz, hnd⟩ := hW
  have hA : DataW.TrodAll enc Try.prog W 0 (fun _ => true) true Try.f7.params.toList args.toList ds p := hA0
  rw [Try.params7] at hA hval
  obtain ⟨v0, vs0, d0, ds0, p0, q0, hargs, rfl, rfl, h0, r0⟩ := trodAll_cons hA
  obtain ⟨v1, vs1, d1, ds1, p1, q1, rfl, rfl, rfl, h1, r1⟩ := trodAll_cons r0
  obtain ⟨v2, vs2, d2, ds2, p2, q2, rfl, rfl, rfl, h2, r2⟩ := trodAll_cons r1
  obtain ⟨v3, vs3, d3, ds3, p3, q3, rfl, rfl, rfl, h3, r3⟩ := trodAll_cons r2
  obtain ⟨rfl, rfl, rfl⟩ := trodAll_nil r3
  obtain rfl : args = #[v0, v1, v2, v3] := by cases args; simp_all
  obtain ⟨rfl, rfl⟩ := trodVars_none hV
  obtain ⟨a0, rfl, rfl, rfl, w0⟩ := open_string Try.underlying9 (hval 0 9 v0 rfl rfl) h0
  obtain ⟨a1, rfl, rfl, rfl, w1⟩ := open_string Try.underlying9 (hval 1 9 v1 rfl rfl) h1
  obtain ⟨a2, rfl, rfl, rfl, w2⟩ := open_string Try.underlying9 (hval 2 9 v2 rfl rfl) h2
  obtain ⟨a3, rfl, rfl, rfl, w3⟩ := open_string Try.underlying9 (hval 3 9 v3 rfl rfl) h3
  clear hA0 hval0
  simp only [List.append_nil] at hW'
  refine (walk a0 a1 a2 a3 w0 w1 w2 w3 W).mono fun e W' ⟨he, hg⟩ => ?_
  subst he
  exact ⟨_, rfl, post_of_same (pa := []) (pv := []) hW' (fun _ _ _ => (trodAll_cons_mk (shut_bool Try.underlying4 _) trodAll_mk0)) (fun sp _ => (trodAll_cons_mk (shut_string Try.underlying9 w0) (trodAll_cons_mk (shut_string Try.underlying9 w1) (trodAll_cons_mk (shut_string Try.underlying9 w2) (trodAll_cons_mk (shut_string Try.underlying9 w3) trodAll_mk0))))) (fun _ _ => rfl) rfl
    (hg.frame _) hg.2.1 (ok_one (by kernel_rfl) rfl (okWide_bool_mk Try.underlying4 _))⟩

theorem over : Rows.fnDirLessKeepsSubtreesTogetherRow.holds Try.pinned (OpenSpec.ofChange Rows.fnDirLessKeepsSubtreesTogetherSpec) :=
  OpenClaim.holds_of_wide 7 Try.f7 rfl rfl rfl rfl rfl rfl rfl ⟨rfl, rfl, rfl, rfl, rfl⟩ rfl rfl rfl rfl rfl (by kernel_rfl) Try.func7 (by kernel_rfl)
    (of_decide_eq_true (by kernel_rfl)) (by unfold Func.isWrapper; first | (rw [if_pos (by decide +kernel)]; kernel_rfl) | (rw [if_neg (by decide +kernel)]; exact ⟨rfl, rfl⟩))
    (fun os started H enc _ => lifted os started H enc)

/-- ████ THE STATEMENT ████ -/
theorem proved : Rows.FnDirLessKeepsSubtreesTogetherSaid :=
  over
#print axioms proved
end Go.Proofs.Qxb6000749a.fnDirLessKeepsSubtreesTogether
