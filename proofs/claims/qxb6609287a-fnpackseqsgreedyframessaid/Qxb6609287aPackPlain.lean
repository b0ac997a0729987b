/-
  PLAIN: topics, their sizes, the greedy packing, and its laws. No Go, no program.
-/
import GoSem.Core.Value
namespace Go.Proofs.Qxb6609287a

/-- A topic: its name, Through, Highest. -/
structure Top where
  s : ByteArray
  t : Int
  h : Int

/-- The bytes that a topic takes in a frame. -/
def Top.sz (x : Top) : Nat := 17 + x.s.size
/-- The bytes that a message of these topics takes. -/
def used (c : List Top) : Nat := 10 + (c.map Top.sz).sum

/-- One topic more: sealed messages, the message at hand. -/
def pstep (st : List (List Top) × List Top) (x : Top) : List (List Top) × List Top :=
  if 262144 < used st.2 + x.sz then (st.1 ++ [st.2], [x]) else (st.1, st.2 ++ [x])
def pfold (xs : List Top) : List (List Top) × List Top := xs.foldl pstep ([], [])
/-- The messages. -/
def packs (xs : List Top) : List (List Top) := (pfold xs).1 ++ [(pfold xs).2]

theorem snoc_ind {α : Type} {p : List α → Prop} (h0 : p []) (h1 : ∀ xs x, p xs → p (xs ++ [x])) : ∀ xs, p xs := by
  have h : ∀ xs : List α, p xs.reverse := by
    intro xs
    induction xs with
    | nil => exact h0
    | cons x xs ih => rw [List.reverse_cons]; exact h1 _ _ ih
  intro xs
  have := h xs.reverse
  rwa [List.reverse_reverse] at this

theorem used_nil : used [] = 10 := rfl
theorem used_snoc (c : List Top) (x : Top) : used (c ++ [x]) = used c + x.sz := by simp [used]; omega
theorem used_one (x : Top) : used [x] = 10 + x.sz := by simp [used]

theorem pfold_nil : pfold [] = ([], []) := rfl
theorem pfold_snoc (xs : List Top) (x : Top) : pfold (xs ++ [x]) = pstep (pfold xs) x := by simp [pfold]
theorem pstep_over (st : List (List Top) × List Top) (x : Top) (h : 262144 < used st.2 + x.sz) : pstep st x = (st.1 ++ [st.2], [x]) := by simp [pstep, h]
theorem pstep_fits (st : List (List Top) × List Top) (x : Top) (h : ¬ 262144 < used st.2 + x.sz) : pstep st x = (st.1, st.2 ++ [x]) := by simp [pstep, h]

theorem packs_length (xs : List Top) : (packs xs).length = (pfold xs).1.length + 1 := by simp [packs]

/-- Read one after another the messages carry the topics. -/
theorem pfold_flat (xs : List Top) : (pfold xs).1.flatten ++ (pfold xs).2 = xs := by
  induction xs using snoc_ind with
  | h0 => rfl
  | h1 xs x ih =>
    rw [pfold_snoc]
    unfold pstep
    split
    · simp [ih]
    · simp only [← List.append_assoc, ih]
theorem packs_flat (xs : List Top) : (packs xs).flatten = xs := by
  simp [packs, pfold_flat]

/-- THE GREEDY LAW: the first topic of a message would not have fitted into the one before it. -/
theorem packs_greedy (xs : List Top) : ∀ i m m', (packs xs)[i]? = some m → (packs xs)[i + 1]? = some m' → ∃ x r, m' = x :: r ∧ 262144 < used m + x.sz := by
  induction xs using snoc_ind with
  | h0 => intro i m m' _ h2; simp [packs, pfold_nil] at h2
  | h1 xs x ih =>
    intro i m m' h1 h2
    unfold packs at ih h1 h2
    rw [pfold_snoc] at h1 h2
    generalize pfold xs = st at *
    obtain ⟨d, c⟩ := st
    by_cases ho : 262144 < used c + x.sz
    · rw [pstep_over _ _ ho] at h1 h2
      simp only at h1 h2 ih
      by_cases hi : i + 1 < (d ++ [c]).length
      · rw [List.getElem?_append_left (by omega)] at h1
        rw [List.getElem?_append_left hi] at h2
        exact ih i m m' h1 h2
      · have hlt : i + 1 < (d ++ [c] ++ [[x]]).length := (List.getElem?_eq_some_iff.1 h2).1
        simp at hi hlt
        obtain rfl : i = d.length := by omega
        rw [List.getElem?_append_left (by simp), List.getElem?_append_right (by simp)] at h1
        rw [List.getElem?_append_right (by simp)] at h2
        simp at h1 h2
        subst h1; subst h2
        exact ⟨x, [], rfl, ho⟩
    · rw [pstep_fits _ _ ho] at h1 h2
      simp only at h1 h2 ih
      by_cases hi : i + 1 < d.length
      · rw [List.getElem?_append_left (by omega)] at h1
        rw [List.getElem?_append_left hi] at h2
        exact ih i m m' (by rw [List.getElem?_append_left (by omega)]; exact h1) (by rw [List.getElem?_append_left hi]; exact h2)
      · have hlt : i + 1 < (d ++ [c ++ [x]]).length := (List.getElem?_eq_some_iff.1 h2).1
        simp at hi hlt
        have hd : d.length = i + 1 := by omega
        rw [List.getElem?_append_left (by omega)] at h1
        rw [List.getElem?_append_right (by omega)] at h2
        simp [hd] at h2
        subst h2
        obtain ⟨y, r, hy, hs⟩ := ih i m c (by rw [List.getElem?_append_left (by omega)]; exact h1) (by rw [List.getElem?_append_right (by omega)]; simp [hd])
        exact ⟨y, r ++ [x], by rw [hy]; rfl, hs⟩

/-- Each message fits, or it holds one topic at most. -/
theorem packs_fit (xs : List Top) : ∀ m ∈ packs xs, used m ≤ 262144 ∨ m.length ≤ 1 := by
  induction xs using snoc_ind with
  | h0 => intro m hm; simp [packs, pfold_nil] at hm; subst hm; exact .inr (by simp)
  | h1 xs x ih =>
    unfold packs at ih ⊢
    rw [pfold_snoc]
    generalize pfold xs = st at *
    obtain ⟨d, c⟩ := st
    by_cases ho : 262144 < used c + x.sz
    · rw [pstep_over _ _ ho]
      intro m hm
      simp only [List.mem_append, List.mem_singleton] at hm
      rcases hm with (hm | hm) | hm
      · exact ih m (by simp [hm])
      · exact ih m (by simp [hm])
      · subst hm; exact .inr (by simp)
    · rw [pstep_fits _ _ ho]
      intro m hm
      simp only [List.mem_append, List.mem_singleton] at hm
      rcases hm with hm | hm
      · exact ih m (by simp [hm])
      · subst hm; exact .inl (by rw [used_snoc]; omega)

/-- What follows is laid behind: messages that are sealed stay; the one at hand grows at its end. -/
theorem packs_more (xs ys : List Top) : ∃ more rest, packs (xs ++ ys) = (pfold xs).1 ++ ((pfold xs).2 ++ more) :: rest := by
  induction ys using snoc_ind with
  | h0 => exact ⟨[], [], by simp [packs]⟩
  | h1 ys y ih =>
    obtain ⟨more, rest, h⟩ := ih
    rw [← List.append_assoc]
    unfold packs at h ⊢
    rw [pfold_snoc]
    generalize pfold (xs ++ ys) = st at *
    obtain ⟨d, c⟩ := st
    by_cases ho : 262144 < used c + y.sz
    · rw [pstep_over _ _ ho]
      exact ⟨more, rest ++ [[y]], by simp only at h ⊢; rw [h]; simp⟩
    · rw [pstep_fits _ _ ho]
      simp only at h ⊢
      cases rest using snoc_ind with
      | h0 =>
        have := List.append_inj' h rfl
        obtain ⟨rfl, h2⟩ := this
        simp at h2
        exact ⟨more ++ [y], [], by rw [h2]; simp⟩
      | h1 rest r _ =>
        rw [show (pfold xs).1 ++ ((pfold xs).2 ++ more) :: (rest ++ [r]) = ((pfold xs).1 ++ ((pfold xs).2 ++ more) :: rest) ++ [r] from by simp] at h
        have := List.append_inj' h rfl
        obtain ⟨rfl, h2⟩ := this
        simp at h2
        exact ⟨more, rest ++ [c ++ [y]], by simp⟩

theorem pfold_cur_ne (xs : List Top) (x : Top) : (pfold (xs ++ [x])).2 ≠ [] := by
  rw [pfold_snoc]; unfold pstep; split <;> simp

/-- The first message: empty just where the first topic alone overflows it. -/
theorem packs_head (x : Top) (xs : List Top) : (packs (x :: xs))[0]? = some [] ∧ 262144 < 10 + x.sz ∨ (∃ r, (packs (x :: xs))[0]? = some (x :: r)) ∧ ¬ 262144 < 10 + x.sz := by
  obtain ⟨more, rest, h⟩ := packs_more [x] xs
  have h1 : pfold [x] = pstep ([], []) x := rfl
  rw [show x :: xs = [x] ++ xs from rfl, h, h1]
  by_cases ho : 262144 < used [] + x.sz
  · rw [pstep_over _ _ ho]; rw [used_nil] at ho; exact .inl ⟨by simp, ho⟩
  · rw [pstep_fits _ _ ho]; rw [used_nil] at ho; exact .inr ⟨⟨more, by simp⟩, ho⟩

theorem packs_nil : packs [] = [[]] := rfl
end Go.Proofs.Qxb6609287a
