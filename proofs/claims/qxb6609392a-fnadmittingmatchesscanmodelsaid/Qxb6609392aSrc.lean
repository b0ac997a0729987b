/-
  The arguments as the road reads them; the lists that zzRunAdmitting gathers; the spans.
-/
import Derived.Test.Qxb6609392aMemB
namespace Go.Proofs.Qxb6609392a
open Go.RowKit

/-- n writes X behind the address ao. -/
def SrcX (W : World) (ao : Option Addr) (n : Nat) (X : Nat → Wr) : Prop :=
  n = 0 ∨ ∃ b o, ao = some ⟨b, o, none⟩ ∧ ∀ k, k < n → W.cell? ⟨b, o + k * 7, none⟩ = some (.int .i64 (X k).v) ∧ W.cell? ⟨b, o + k * 7 + 1, none⟩ = some (.int .i64 (X k).c) ∧ W.cell? ⟨b, o + k * 7 + 2, none⟩ = some (.int .i64 (X k).r) ∧
    W.cell? ⟨b, o + k * 7 + 3, none⟩ = some (.bool (X k).failed) ∧ W.cell? ⟨b, o + k * 7 + 4, none⟩ = some (.bool (X k).read) ∧ W.cell? ⟨b, o + k * 7 + 5, none⟩ = some (.int .i64 (X k).rc) ∧ W.cell? ⟨b, o + k * 7 + 6, none⟩ = some (.int .i64 (X k).rr)
theorem SrcX.keep {W W' : World} {ao : Option Addr} {n : Nat} {X : Nat → Wr} (h : SrcX W ao n X) (hB : Below W.heap.size W W') : SrcX W' ao n X := by
  rcases h with h | ⟨b, o, e, h⟩
  · exact .inl h
  · refine .inr ⟨b, o, e, fun k hk => ?_⟩
    obtain ⟨h0, h1, h2, h3, h4, h5, h6⟩ := h k hk
    exact ⟨cell_keep hB h0, cell_keep hB h1, cell_keep hB h2, cell_keep hB h3, cell_keep hB h4, cell_keep hB h5, cell_keep hB h6⟩

/-- m integers E behind the address ae. -/
def SrcI (W : World) (ae : Option Addr) (m : Nat) (E : Nat → Int) : Prop := m = 0 ∨ ∃ b o, ae = some ⟨b, o, none⟩ ∧ ∀ k, k < m → W.cell? ⟨b, o + k, none⟩ = some (.int .i64 (E k))
theorem SrcI.keep {W W' : World} {ae : Option Addr} {m : Nat} {E : Nat → Int} (h : SrcI W ae m E) (hB : Below W.heap.size W W') : SrcI W' ae m E := by
  rcases h with h | ⟨b, o, e, h⟩
  · exact .inl h
  · exact .inr ⟨b, o, e, fun k hk => cell_keep hB (h k hk)⟩

/-- The writes below k that p picks. -/
def picks (p : Nat → Bool) (k : Nat) : List Nat := (List.range k).filter p
theorem picks_succ (p : Nat → Bool) (k : Nat) : picks p (k + 1) = picks p k ++ (if p k then [k] else []) := by
  unfold picks
  rw [List.range_succ, List.filter_append]
  congr 1
  cases h : p k <;> simp [h]
theorem picks_le (p : Nat → Bool) (k : Nat) : (picks p k).length ≤ k := by
  unfold picks
  exact Nat.le_trans (List.length_filter_le _ _) (by simp)
theorem picks_mem {p : Nat → Bool} {k i : Nat} : i ∈ picks p k ↔ i < k ∧ p i = true := by simp [picks]

/-- After k writes the map's spans: those of the values met. -/
structure Spans (n : Nat) (X : Nat → Wr) (k : Nat) (T : Int → Nat × Nat) : Prop where
  met : ∀ v, (∃ i, i < k ∧ (X i).v = v) → (T v).1 ≤ (T v).2 ∧ (T v).2 ≤ n ∧ ∀ i, i < n → ((T v).1 ≤ i ∧ i < (T v).2 ↔ (X i).v = v)
  new : ∀ v, (¬ ∃ i, i < k ∧ (X i).v = v) → T v = (0, 0)
theorem Spans.zero (n : Nat) (X : Nat → Wr) : Spans n X 0 (fun _ => (0, 0)) := ⟨fun v ⟨i, h, _⟩ => by omega, fun _ _ => rfl⟩
theorem Spans.all {n : Nat} {X : Nat → Wr} {T : Int → Nat × Nat} (h : Spans n X n T) (v : Int) : (T v).1 ≤ (T v).2 ∧ (T v).2 ≤ n ∧ ∀ i, i < n → ((T v).1 ≤ i ∧ i < (T v).2 ↔ (X i).v = v) := by
  by_cases c : ∃ i, i < n ∧ (X i).v = v
  · exact h.met v c
  · rw [h.new v c]
    refine ⟨Nat.le_refl _, Nat.zero_le _, fun i hi => ⟨fun x => by simp at x, fun x => absurd ⟨i, hi, x⟩ c⟩⟩
/-- The next write has the value of the one before it. -/
theorem Spans.same {n : Nat} {X : Nat → Wr} {k : Nat} {T : Int → Nat × Nat} (h : Spans n X k T) (hk : 0 < k) (he : (X (k - 1)).v = (X k).v) : Spans n X (k + 1) T := by
  refine ⟨fun v ⟨i, h1, h2⟩ => ?_, fun v hv => h.new v fun ⟨i, h1, h2⟩ => hv ⟨i, by omega, h2⟩⟩
  by_cases e : i = k
  · subst e; exact h.met v ⟨i - 1, by omega, by rw [he]; exact h2⟩
  · exact h.met v ⟨i, by omega, h2⟩
/-- The next write opens a new value, whose writes reach up to j. -/
theorem Spans.open {n : Nat} {X : Nat → Wr} {k j : Nat} {T : Int → Nat × Nat} (h : Spans n X k T) (hs : ∀ a b, a ≤ b → b < n → (X a).v ≤ (X b).v) (hk : k < n) (hnew : k = 0 ∨ (X (k - 1)).v ≠ (X k).v) (hj1 : k < j) (hj2 : j ≤ n)
    (hin : ∀ i, k ≤ i → i < j → (X i).v = (X k).v) (hend : j = n ∨ (X j).v ≠ (X k).v) : Spans n X (k + 1) (fun v => if v = (X k).v then (k, j) else T v) := by
  have hlow : ∀ i, i < k → (X i).v < (X k).v := fun i hi => by
    have h1 := hs i (k - 1) (by omega) (by omega)
    have h2 := hs (k - 1) k (by omega) hk
    rcases hnew with e | e
    · omega
    · omega
  have hhigh : ∀ i, j ≤ i → i < n → (X k).v < (X i).v := fun i h1 h2 => by
    have h3 := hs j i h1 h2
    have h4 := hs k j (by omega) (by omega)
    rcases hend with e | e
    · omega
    · omega
  refine ⟨fun v ⟨i, h1, h2⟩ => ?_, fun v hv => ?_⟩
  · by_cases e : v = (X k).v
    · simp only [e, if_true]
      refine ⟨by omega, hj2, fun i hi => ⟨fun ⟨a, b⟩ => hin i a b, fun x => ?_⟩⟩
      by_cases c1 : k ≤ i
      · by_cases c2 : i < j
        · exact ⟨c1, c2⟩
        · have := hhigh i (by omega) hi; omega
      · have := hlow i (by omega); omega
    · simp only [e, if_false]
      refine h.met v ⟨i, ?_, h2⟩
      by_cases c : i = k
      · subst c; exact absurd h2.symm e
      · omega
  · have e : v ≠ (X k).v := fun e => hv ⟨k, by omega, e.symm⟩
    simp only [e, if_false]
    exact h.new v fun ⟨i, h1, h2⟩ => hv ⟨i, by omega, h2⟩
end Go.Proofs.Qxb6609392a
