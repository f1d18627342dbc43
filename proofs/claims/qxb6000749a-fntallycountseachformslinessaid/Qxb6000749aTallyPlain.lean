/-
  The plain law behind the three Tally statements: lists of (form, count), no Go in sight.
-/
import Derived.Lib.Strings
namespace Go.Proofs.Qxb6000749a.Tally

/-- The place of form f: the first entry of that form, the length where there is none. -/
def pos (f : ByteArray) : List (ByteArray × Int) → Nat
  | [] => 0
  | p :: r => if p.1 = f then 0 else pos f r + 1

theorem pos_le (f : ByteArray) (T : List (ByteArray × Int)) : pos f T ≤ T.length := by
  induction T with
  | nil => simp [pos]
  | cons p r ih =>
    unfold pos
    split
    · simp
    · simp; exact ih

theorem pos_hit {f : ByteArray} : ∀ {T : List (ByteArray × Int)} {k : Nat} (hk : k < T.length), (∀ j (hj : j < k), ¬ T[j].1 = f) → T[k].1 = f → pos f T = k
  | [], k, hk, _, _ => absurd hk (by simp)
  | p :: r, 0, _, _, he => by
    have he' : p.1 = f := he
    simp [pos, he']
  | p :: r, k + 1, hk, hb, he => by
    have h0 : ¬ p.1 = f := hb 0 (by omega)
    have hk' : k < r.length := by simpa using hk
    rw [pos, if_neg h0, pos_hit hk' (fun j hj => hb (j + 1) (by omega)) he]

theorem pos_miss {f : ByteArray} : ∀ {T : List (ByteArray × Int)}, (∀ j (hj : j < T.length), ¬ T[j].1 = f) → pos f T = T.length
  | [], _ => rfl
  | p :: r, hb => by
    have h0 : ¬ p.1 = f := hb 0 (by simp)
    rw [pos, if_neg h0, pos_miss (fun j hj => hb (j + 1) (by simpa using hj))]
    simp

theorem pos_form {f : ByteArray} : ∀ {T : List (ByteArray × Int)} (h : pos f T < T.length), T[pos f T].1 = f
  | [], h => absurd h (by simp [pos])
  | p :: r, h => by
    by_cases e : p.1 = f
    · simp [pos, e]
    · have e2 : pos f (p :: r) = pos f r + 1 := by rw [pos, if_neg e]
      have h' : pos f r < r.length := by rw [e2] at h; simpa using h
      simp only [e2, List.getElem_cons_succ]
      exact pos_form h'

theorem pos_before {f : ByteArray} : ∀ {T : List (ByteArray × Int)} {j : Nat} (hj : j < T.length), j < pos f T → ¬ T[j].1 = f
  | [], _, hj, _ => absurd hj (by simp)
  | p :: r, 0, _, hp => by
    intro e
    have e' : p.1 = f := e
    simp [pos, e'] at hp
  | p :: r, j + 1, hj, hp => by
    by_cases e : p.1 = f
    · simp [pos, e] at hp
    · rw [pos, if_neg e] at hp
      exact pos_before (T := r) (by simpa using hj) (by omega)

theorem pos_iff (f : ByteArray) (T : List (ByteArray × Int)) : pos f T < T.length ↔ f ∈ T.map Prod.fst := by
  induction T with
  | nil => simp [pos]
  | cons p r ih =>
    by_cases e : p.1 = f
    · simp [pos, e]
    · have e' : ¬ f = p.1 := fun q => e q.symm
      rw [pos, if_neg e]
      simp only [List.length_cons, List.map_cons, List.mem_cons, e', false_or, ← ih]
      omega

/-- The tally with form f in it. -/
def put (f : ByteArray) (T : List (ByteArray × Int)) : List (ByteArray × Int) := if pos f T < T.length then T else T ++ [(f, 0)]

theorem put_old {f : ByteArray} {T : List (ByteArray × Int)} (h : pos f T < T.length) : put f T = T := if_pos h
theorem put_new {f : ByteArray} {T : List (ByteArray × Int)} (h : ¬ pos f T < T.length) : put f T = T ++ [(f, 0)] := if_neg h

theorem pos_append_new {f : ByteArray} {T : List (ByteArray × Int)} (h : ¬ pos f T < T.length) (c : Int) : pos f (T ++ [(f, c)]) = T.length := by
  have e : pos f T = T.length := by have := pos_le f T; omega
  refine pos_hit (by simp) (fun j hj => ?_) (by simp)
  rw [List.getElem_append_left hj]
  exact pos_before hj (by omega)

theorem pos_put (f : ByteArray) (T : List (ByteArray × Int)) : pos f (put f T) = pos f T := by
  by_cases h : pos f T < T.length
  · rw [put_old h]
  · rw [put_new h, pos_append_new h]
    have := pos_le f T
    omega

theorem pos_put_lt (f : ByteArray) (T : List (ByteArray × Int)) : pos f (put f T) < (put f T).length := by
  by_cases h : pos f T < T.length
  · rw [put_old h]; exact h
  · rw [put_new h, pos_append_new h]; simp

theorem put_length_le (f : ByteArray) (T : List (ByteArray × Int)) : (put f T).length ≤ T.length + 1 := by
  unfold put
  split <;> simp

/-- The tally after the forms fs. -/
def build (fs : List ByteArray) : List (ByteArray × Int) := fs.foldl (fun T f => put f T) []

theorem build_snoc (fs : List ByteArray) (f : ByteArray) : build (fs ++ [f]) = put f (build fs) := by simp [build]

theorem build_length_le (fs : List ByteArray) (n : Nat) (h : fs.length ≤ n) : (build fs).length ≤ n := by
  suffices ∀ l : List ByteArray, (build l.reverse).length ≤ l.length by
    have := this fs.reverse
    simp at this
    omega
  intro l
  induction l with
  | nil => simp [build]
  | cons f r ih =>
    rw [List.reverse_cons, build_snoc]
    have := put_length_le f (build r.reverse)
    simp
    omega

theorem put_mem (f g : ByteArray) (T : List (ByteArray × Int)) : g ∈ (put f T).map Prod.fst ↔ g = f ∨ g ∈ T.map Prod.fst := by
  by_cases h : pos f T < T.length
  · rw [put_old h]
    refine ⟨.inr, ?_⟩
    rintro (rfl | e)
    · exact (pos_iff _ _).1 h
    · exact e
  · rw [put_new h]
    simp only [List.map_append, List.map_cons, List.map_nil, List.mem_append, List.mem_singleton]
    exact Or.comm

theorem build_mem (fs : List ByteArray) (g : ByteArray) : g ∈ (build fs).map Prod.fst ↔ g ∈ fs := by
  suffices ∀ l : List ByteArray, g ∈ (build l.reverse).map Prod.fst ↔ g ∈ l by
    have := this fs.reverse
    simpa using this
  intro l
  induction l with
  | nil => simp [build]
  | cons f r ih => rw [List.reverse_cons, build_snoc, put_mem, ih, List.mem_cons]

theorem build_pos (fs : List ByteArray) (g : ByteArray) : pos g (build fs) < (build fs).length ↔ g ∈ fs := (pos_iff _ _).trans (build_mem fs g)

end Go.Proofs.Qxb6000749a.Tally
