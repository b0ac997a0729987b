/-
  What zzRunAdmitting lays, in plain words, and what the laid data answer.
-/
import Derived.Test.Qxb6609392aSpan
namespace Go.Proofs.Qxb6609392a

/-- The laid data fit the writes X 0 .. X (n - 1). -/
structure Lay (D : AD) (X : Nat → Wr) : Prop where
  call : ∀ i, i < D.n → D.call i = (X i).c
  cl : ∀ i, i < D.n → D.CL i = (X i).last
  cf : ∀ i, i < D.n → D.CF i = (X i).fr
  slot : ∀ i, i < D.n → (X i).slot = true → ∃ k : Nat, D.fst i = k ∧ k < D.s ∧ D.R k = (X i).fr ∧ D.N1 (D.p1 + k) = (X i).last
  none : ∀ i, i < D.n → (X i).slot = false → D.fst i = -1
  own : ∀ k, k < D.s → D.N1 (D.p1 + k) = -9223372036854775808 ∨ ∃ i, i < D.n ∧ (X i).slot = true ∧ D.fst i = (k : Int)
  inj : ∀ i j, i < D.n → j < D.n → 0 ≤ D.fst i → D.fst i = D.fst j → i = j
  n2 : ∀ i, i < D.n → D.N2 (D.p2 + i) = if 0 ≤ D.fst i then D.fst i else -9223372036854775808
  n3 : ∀ i, i < D.n → D.N3 (D.p3 + i) = if (X i).idle then 0 else -9223372036854775808

/-- The scan: write i takes the read. -/
def TakesM (n : Nat) (X : Nat → Wr) (nv rc rr : Int) (i : Nat) : Prop :=
  nv ≤ min (X i).fr rr ∧ ¬ ∃ j, j < n ∧ j ≠ i ∧ (X j).slot = true ∧ (X j).fr < max (X i).last rc ∧ min (X i).fr rr < (X j).last

theorem bs_lt {R : Nat → Int} {t : Int} {n : Nat} (hs : ∀ a b, a ≤ b → b < n → R a ≤ R b) (k : Nat) (hk : k < n) : k < bs R t n ↔ R k < t := by
  obtain ⟨_, h1, h2⟩ := bs_spec R t n hs
  constructor
  · exact h1 k
  · intro h
    by_cases c : k < bs R t n
    · exact c
    · have := h2 k (by omega) hk; omega

theorem forced_iff {D : AD} {X : Nat → Wr} (L : Lay D X) (ok : D.Ok) (i : Nat) (hi : i < D.n) (lc fr : Int) (hfr : -9223372036854775808 ≤ fr) :
    fr < forcedMax D.R D.N1 D.p1 D.s lc (D.fst i) ↔ ∃ j, j < D.n ∧ j ≠ i ∧ (X j).slot = true ∧ (X j).fr < lc ∧ fr < (X j).last := by
  have hB := (bs_spec D.R lc D.s ok.sortR).1
  have key : fr < forcedMax D.R D.N1 D.p1 D.s lc (D.fst i) ↔ ∃ k : Nat, k < bs D.R lc D.s ∧ (k : Int) ≠ D.fst i ∧ fr < D.N1 (D.p1 + k) := by
    unfold forcedMax
    split
    · rename_i ho
      constructor
      · intro h
        by_cases h1 : fr < gre D.N1 D.p1 0 (D.fst i).toNat
        · rcases (gre_spec _ _ _ _ _).1 h1 with e | ⟨k, _, k2, k3⟩
          · omega
          · exact ⟨k, by omega, by omega, k3⟩
        · rcases (gre_spec D.N1 D.p1 ((D.fst i).toNat + 1) (bs D.R lc D.s) fr).1 (by omega) with e | ⟨k, k1, k2, k3⟩
          · omega
          · exact ⟨k, k2, by omega, k3⟩
      · rintro ⟨k, k1, k2, k3⟩
        by_cases c : k < (D.fst i).toNat
        · have := (gre_spec D.N1 D.p1 0 (D.fst i).toNat fr).2 (.inr ⟨k, Nat.zero_le _, c, k3⟩); omega
        · have := (gre_spec D.N1 D.p1 ((D.fst i).toNat + 1) (bs D.R lc D.s) fr).2 (.inr ⟨k, by omega, k1, k3⟩); omega
    · rename_i ho
      constructor
      · intro h
        rcases (gre_spec _ _ _ _ _).1 h with e | ⟨k, _, k2, k3⟩
        · omega
        · exact ⟨k, k2, by omega, k3⟩
      · rintro ⟨k, k1, _, k3⟩
        exact (gre_spec D.N1 D.p1 0 (bs D.R lc D.s) fr).2 (.inr ⟨k, Nat.zero_le _, k1, k3⟩)
  rw [key]
  constructor
  · rintro ⟨k, k1, k2, k3⟩
    rcases L.own k (by omega) with e | ⟨j, j1, j2, j3⟩
    · omega
    · obtain ⟨k', e1, e2, e3, e4⟩ := L.slot j j1 j2
      have : k' = k := by omega
      subst this
      refine ⟨j, j1, fun e => by subst e; omega, j2, ?_, by omega⟩
      rw [← e3]
      exact (bs_lt ok.sortR k' e2).1 k1
  · rintro ⟨j, j1, j2, j3, j4, j5⟩
    obtain ⟨k', e1, e2, e3, e4⟩ := L.slot j j1 j3
    refine ⟨k', (bs_lt ok.sortR k' e2).2 (by omega), fun e => j2 (L.inj j i j1 hi (by omega) (by omega)), by omega⟩

theorem takes_iff {D : AD} {X : Nat → Wr} (L : Lay D X) (ok : D.Ok) (rc rr : Int) (i : Nat) (hi : i < D.n) (h1 : -9223372036854775808 ≤ (X i).fr) (h2 : -9223372036854775808 ≤ rr) :
    D.takes rc rr i = true ↔ TakesM D.n X D.nv rc rr i := by
  unfold AD.takes AD.admits TakesM
  rw [L.cl i hi, L.cf i hi, Bool.and_eq_true, decide_eq_true_iff, Bool.not_eq_true', decide_eq_false_iff_not, forced_iff L ok i hi _ _ (by omega)]
end Go.Proofs.Qxb6609392a
