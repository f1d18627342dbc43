/-
  The plain law behind the three DirLess statements: no Go in sight.
  'sl': byte order in which the end of a list counts greater than every byte.
-/
import Derived.Lib.Strings
namespace Go.Proofs.Qxb6000749a.Dir

/-- Byte order in which the end counts greater than every byte. -/
def sl : List UInt8 → List UInt8 → Bool
  | [], _ => false
  | _ :: _, [] => true
  | x :: xs, y :: ys => if x = y then sl xs ys else decide (x < y)

/-- What '(dirQueue).Less' answers, as its text says it. -/
def dirB (a b : List UInt8) : Bool :=
  if Lib.hasPrefix b a then false else if Lib.hasPrefix a b then true else Op.bytesLess a b

theorem dirB_sl (a b : List UInt8) : dirB a b = sl a b := by
  induction a generalizing b with
  | nil => simp [dirB, sl, Lib.hasPrefix]
  | cons x xs ih =>
    cases b with
    | nil => simp [dirB, sl, Lib.hasPrefix]
    | cons y ys =>
      have h := ih ys
      unfold dirB Lib.hasPrefix at h
      unfold dirB Lib.hasPrefix sl
      by_cases e : x = y
      · subst e
        rw [if_pos rfl, ← h]
        simp [Op.bytesLess]
      · have e' : ¬ y = x := fun q => e q.symm
        simp [Op.bytesLess, e, e']

theorem sl_self (a : List UInt8) : sl a a = false := by
  induction a with
  | nil => rfl
  | cons x xs ih => simp [sl, ih]

theorem sl_asym (a b : List UInt8) (h : sl a b = true) : sl b a = false := by
  induction a generalizing b with
  | nil => simp [sl] at h
  | cons x xs ih =>
    cases b with
    | nil => simp [sl]
    | cons y ys =>
      unfold sl at h ⊢
      by_cases e : x = y
      · subst e
        simp at h ⊢
        exact ih ys h
      · have e' : ¬ y = x := fun q => e q.symm
        simp [e, e'] at h ⊢
        exact UInt8.le_of_lt h

theorem sl_total (a b : List UInt8) (hne : ¬ a = b) (h : sl a b = false) : sl b a = true := by
  induction a generalizing b with
  | nil =>
    cases b with
    | nil => exact absurd rfl hne
    | cons y ys => simp [sl]
  | cons x xs ih =>
    cases b with
    | nil => simp [sl] at h
    | cons y ys =>
      unfold sl at h ⊢
      by_cases e : x = y
      · subst e
        simp at h hne ⊢
        exact ih ys hne h
      · have e' : ¬ y = x := fun q => e q.symm
        simp [e, e'] at h ⊢
        exact UInt8.lt_of_le_of_ne h e'

theorem sl_trans (a b c : List UInt8) (h : sl a b = true) (g : sl b c = true) : sl a c = true := by
  induction a generalizing b c with
  | nil => simp [sl] at h
  | cons x xs ih =>
    cases c with
    | nil => simp [sl]
    | cons z zs =>
      cases b with
      | nil => simp [sl] at g
      | cons y ys =>
        unfold sl at h g ⊢
        by_cases e : x = y
        · subst e
          by_cases f : x = z
          · subst f
            simp at h g ⊢
            exact ih ys zs h g
          · simp [f] at h g ⊢
            exact g
        · simp [e] at h
          by_cases f : y = z
          · subst f
            simp [e]
            exact h
          · simp [f] at g
            have k : x < z := UInt8.lt_trans h g
            have k' : ¬ x = z := UInt8.ne_of_lt k
            simp [k', k]

theorem sl_longer (a s : List UInt8) (hs : ¬ s = []) : sl (a ++ s) a = true := by
  induction a with
  | nil =>
    cases s with
    | nil => exact absurd rfl hs
    | cons y ys => simp [sl]
  | cons x xs ih => simpa [sl] using ih

theorem sl_apart (a b s t : List UInt8) (h1 : ¬ Lib.hasPrefix a b = true) (h2 : ¬ Lib.hasPrefix b a = true) : sl (a ++ s) (b ++ t) = sl a b := by
  unfold Lib.hasPrefix at h1 h2
  induction a generalizing b with
  | nil => exact absurd (by simp) h2
  | cons x xs ih =>
    cases b with
    | nil => exact absurd (by simp) h1
    | cons y ys =>
      simp only [List.cons_append]
      unfold sl
      by_cases e : x = y
      · subst e
        simp at h1 h2
        simp only [if_true]
        exact ih ys (by simpa using h1) (by simpa using h2)
      · simp [e]

end Go.Proofs.Qxb6000749a.Dir
