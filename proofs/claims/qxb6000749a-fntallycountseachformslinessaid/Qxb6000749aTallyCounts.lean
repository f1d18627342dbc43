/-
  The plain law of the counts.
-/
import Derived.Test.Qxb6000749aTallyPlain
namespace Go.Proofs.Qxb6000749a.Tally

/-- How often g stands among fs. -/
def occ (g : ByteArray) : List ByteArray → Int
  | [] => 0
  | f :: r => (if f = g then 1 else 0) + occ g r

theorem occ_snoc (g f : ByteArray) : ∀ fs : List ByteArray, occ g (fs ++ [f]) = occ g fs + (if f = g then 1 else 0)
  | [] => by simp [occ]
  | x :: r => by
    rw [List.cons_append, occ, occ_snoc g f r, occ]
    omega

theorem occ_none (g : ByteArray) : ∀ fs : List ByteArray, ¬ g ∈ fs → occ g fs = 0
  | [], _ => rfl
  | x :: r, h => by
    have h1 : ¬ x = g := fun e => h (by simp [e])
    rw [occ, if_neg h1, occ_none g r (fun q => h (List.mem_cons_of_mem _ q))]
    omega

theorem occ_bounds (g : ByteArray) : ∀ fs : List ByteArray, 0 ≤ occ g fs ∧ occ g fs ≤ fs.length
  | [] => by simp [occ]
  | x :: r => by
    have := occ_bounds g r
    rw [occ, List.length_cons]
    split <;> omega

/-- The sum of the counts. -/
def sum : List (ByteArray × Int) → Int
  | [] => 0
  | p :: r => p.2 + sum r

theorem sum_snoc (p : ByteArray × Int) : ∀ T : List (ByteArray × Int), sum (T ++ [p]) = sum T + p.2
  | [] => by simp [sum]
  | q :: r => by
    rw [List.cons_append, sum, sum_snoc p r, sum]
    omega

theorem sum_set (c : Int) (g : ByteArray) : ∀ (T : List (ByteArray × Int)) (k : Nat) (hk : k < T.length), sum (T.set k (g, c)) = sum T - T[k].2 + c
  | [], k, hk => absurd hk (by simp)
  | p :: r, 0, _ => by simp [sum]; omega
  | p :: r, k + 1, hk => by
    have hk' : k < r.length := by simpa using hk
    rw [List.set_cons_succ, sum, sum_set c g r k hk', sum]
    simp only [List.getElem_cons_succ]
    omega

/-- The tally counts fs: each entry's count is its form's; no form twice; every form there; the sum is the number of all. -/
structure Good (fs : List ByteArray) (T : List (ByteArray × Int)) : Prop where
  cnt : ∀ k (hk : k < T.length), T[k].2 = occ T[k].1 fs
  dis : ∀ k (hk : k < T.length), pos T[k].1 T = k
  mem : ∀ g, pos g T < T.length ↔ g ∈ fs
  tot : sum T = fs.length

theorem Good.nil : Good [] [] := ⟨fun k hk => absurd hk (by simp), fun k hk => absurd hk (by simp), fun g => by simp [pos], rfl⟩

theorem pos_congr (g : ByteArray) : ∀ (T U : List (ByteArray × Int)), T.map Prod.fst = U.map Prod.fst → pos g T = pos g U
  | [], [], _ => rfl
  | [], _ :: _, h => by simp at h
  | _ :: _, [], h => by simp at h
  | p :: r, q :: s, h => by
    simp only [List.map_cons, List.cons.injEq] at h
    rw [pos, pos, h.1, pos_congr g r s h.2]

theorem forms_set : ∀ (T : List (ByteArray × Int)) (k : Nat) (hk : k < T.length) (c : Int), (T.set k (T[k].1, c)).map Prod.fst = T.map Prod.fst
  | [], k, hk, _ => absurd hk (by simp)
  | p :: r, 0, _, c => by simp
  | p :: r, k + 1, hk, c => by
    have hk' : k < r.length := by simpa using hk
    rw [List.set_cons_succ, List.map_cons, List.map_cons]
    congr 1
    exact forms_set r k hk' c

theorem pos_set (g : ByteArray) (T : List (ByteArray × Int)) (k : Nat) (hk : k < T.length) (c : Int) : pos g (T.set k (T[k].1, c)) = pos g T :=
  pos_congr g _ _ (forms_set T k hk c)

theorem pos_append_old {g : ByteArray} {T : List (ByteArray × Int)} (h : pos g T < T.length) (R : List (ByteArray × Int)) : pos g (T ++ R) = pos g T := by
  refine pos_hit (by rw [List.length_append]; omega) (fun j hj => ?_) ?_
  · rw [List.getElem_append_left (by omega)]
    exact pos_before (by omega) hj
  · rw [List.getElem_append_left h]
    exact pos_form h

/-- The form is there: its count goes up by one. -/
theorem Good.hit {fs : List ByteArray} {T : List (ByteArray × Int)} (h : Good fs T) (f : ByteArray) (hp : pos f T < T.length) :
    Good (fs ++ [f]) (T.set (pos f T) (T[pos f T].1, T[pos f T].2 + 1)) := by
  have hfs : f ∈ fs := (h.mem f).1 hp
  have hform : T[pos f T].1 = f := pos_form hp
  have h1 : ∀ k (hk : k < T.length), ((T.set (pos f T) (T[pos f T].1, T[pos f T].2 + 1))[k]'(by simpa using hk)).1 = T[k].1 := by
    intro k hk
    rw [List.getElem_set]
    split
    · rename_i e
      subst e
      rfl
    · rfl
  refine ⟨fun k hk => ?_, fun k hk => ?_, fun g => ?_, ?_⟩
  · have hk' : k < T.length := by simpa using hk
    rw [h1 k hk', occ_snoc, ← h.cnt k hk', List.getElem_set]
    by_cases e : pos f T = k
    · subst e
      simp [hform]
    · have hne : ¬ f = T[k].1 := fun q => e (by rw [q]; exact h.dis k hk')
      simp [e, hne]
  · have hk' : k < T.length := by simpa using hk
    rw [h1 k hk', pos_set]
    exact h.dis k hk'
  · rw [pos_set, List.length_set, h.mem]
    simp only [List.mem_append, List.mem_singleton]
    refine ⟨.inl, ?_⟩
    rintro (q | q)
    · exact q
    · rw [q]; exact hfs
  · rw [sum_set _ _ T (pos f T) hp, h.tot]
    simp
    omega

/-- The form is new: an entry with count one. -/
theorem Good.new {fs : List ByteArray} {T : List (ByteArray × Int)} (h : Good fs T) (f : ByteArray) (hp : ¬ pos f T < T.length) :
    Good (fs ++ [f]) (T ++ [(f, 1)]) := by
  have hfs : ¬ f ∈ fs := fun q => hp ((h.mem f).2 q)
  have hpl : pos f T = T.length := by have := pos_le f T; omega
  refine ⟨fun k hk => ?_, fun k hk => ?_, fun g => ?_, ?_⟩
  · by_cases hk' : k < T.length
    · rw [List.getElem_append_left hk', occ_snoc, ← h.cnt k hk']
      have hne : ¬ f = T[k].1 := fun q => pos_before (f := f) hk' (by omega) q.symm
      simp [hne]
    · have hkl : k = T.length := by simp at hk; omega
      subst hkl
      simp [occ_snoc, occ_none f fs hfs]
  · by_cases hk' : k < T.length
    · rw [List.getElem_append_left hk', pos_append_old (by rw [h.dis k hk']; exact hk')]
      exact h.dis k hk'
    · have hkl : k = T.length := by simp at hk; omega
      subst hkl
      simp only [List.getElem_concat_length]
      exact pos_append_new hp 1
  · rw [pos_iff, List.map_append, List.mem_append, ← pos_iff, h.mem]
    simp
  · rw [sum_snoc, h.tot]
    simp

/-- What one call of ZZTallyOf and one of ZZBump do. -/
theorem Good.step {fs : List ByteArray} {T : List (ByteArray × Int)} (h : Good fs T) (f : ByteArray) :
    Good (fs ++ [f]) ((put f T).set (pos f (put f T)) (((put f T)[pos f (put f T)]'(pos_put_lt f T)).1, ((put f T)[pos f (put f T)]'(pos_put_lt f T)).2 + 1)) := by
  by_cases hp : pos f T < T.length
  · have e : put f T = T := put_old hp
    simp only [e]
    exact h.hit f hp
  · have e : put f T = T ++ [(f, 0)] := put_new hp
    have e2 : pos f (T ++ [(f, 0)]) = T.length := pos_append_new hp 0
    simp only [e, e2]
    simpa using h.new f hp

/-- The count that is raised is small. -/
theorem Good.small {fs : List ByteArray} {T : List (ByteArray × Int)} (h : Good fs T) (f : ByteArray) :
    0 ≤ ((put f T)[pos f (put f T)]'(pos_put_lt f T)).2 ∧ ((put f T)[pos f (put f T)]'(pos_put_lt f T)).2 ≤ fs.length := by
  by_cases hp : pos f T < T.length
  · have e : put f T = T := put_old hp
    simp only [e]
    rw [h.cnt _ hp]
    exact occ_bounds _ _
  · have e : put f T = T ++ [(f, 0)] := put_new hp
    have e2 : pos f (T ++ [(f, 0)]) = T.length := pos_append_new hp 0
    simp only [e, e2]
    simp

theorem sum_append : ∀ T U : List (ByteArray × Int), sum (T ++ U) = sum T + sum U
  | [], U => by simp [sum]
  | p :: r, U => by
    rw [List.cons_append, sum, sum_append r U, sum]
    omega

theorem sum_pos : ∀ T : List (ByteArray × Int), (∀ k (hk : k < T.length), 0 ≤ T[k].2) → 0 ≤ sum T
  | [], _ => by simp [sum]
  | p :: r, h => by
    have h0 : 0 ≤ p.2 := h 0 (by simp)
    have h1 := sum_pos r (fun k hk => h (k + 1) (by simpa using hk))
    rw [sum]
    omega

/-- The running total. -/
theorem Good.total {fs : List ByteArray} {T : List (ByteArray × Int)} (h : Good fs T) (k : Nat) : 0 ≤ sum (T.take k) ∧ sum (T.take k) ≤ fs.length := by
  have hp : ∀ k (hk : k < T.length), 0 ≤ T[k].2 := fun k hk => by rw [h.cnt k hk]; exact (occ_bounds _ _).1
  have h1 : 0 ≤ sum (T.take k) := sum_pos _ (fun j hj => by rw [List.getElem_take]; exact hp j (by simp at hj; omega))
  have h2 : 0 ≤ sum (T.drop k) := sum_pos _ (fun j hj => by rw [List.getElem_drop]; exact hp _ (by simp at hj; omega))
  have h3 : sum (T.take k) + sum (T.drop k) = sum T := by rw [← sum_append, List.take_append_drop]
  have h4 := h.tot
  omega

theorem sum_next {T : List (ByteArray × Int)} {k : Nat} (hk : k < T.length) : sum (T.take (k + 1)) = sum (T.take k) + T[k].2 := by
  rw [List.take_succ_eq_append_getElem hk, sum_snoc]

end Go.Proofs.Qxb6000749a.Tally
