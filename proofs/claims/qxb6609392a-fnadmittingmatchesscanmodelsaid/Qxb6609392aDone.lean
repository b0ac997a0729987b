/-
  The plain law where every write completed and carries no read.
-/
import Derived.Test.Qxb6609392aScan
namespace Go.Proofs.Qxb6609392a

theorem dn_spec (P : Nat → Bool) (fr : Nat) : ∀ n, (dn P fr n = -1 ∧ ∀ i, fr ≤ i → i < n → P i = false) ∨ ∃ q : Nat, dn P fr n = q ∧ fr ≤ q ∧ q < n ∧ P q = true ∧ ∀ j, q < j → j < n → P j = false
  | 0 => .inl ⟨rfl, fun i _ h => by omega⟩
  | n + 1 => by
    by_cases h : fr ≤ n ∧ P n = true
    · exact .inr ⟨n, if_pos h, h.1, by omega, h.2, fun j h1 h2 => by omega⟩
    · rw [show dn P fr (n + 1) = dn P fr n from if_neg h]
      have hn : fr ≤ n → P n = false := fun h1 => by
        cases e : P n
        · rfl
        · exact absurd ⟨h1, e⟩ h
      rcases dn_spec P fr n with ⟨e, h1⟩ | ⟨q, e, h1, h2, h3, h4⟩
      · refine .inl ⟨e, fun i i1 i2 => ?_⟩
        by_cases ei : i = n
        · subst ei; exact hn i1
        · exact h1 i i1 (by omega)
      · refine .inr ⟨q, e, h1, by omega, h3, fun j j1 j2 => ?_⟩
        by_cases ej : j = n
        · subst ej; exact hn (by omega)
        · exact h4 j j1 (by omega)

theorem dn_eq {P A : Nat → Bool} {fr re n m : Nat} (hre : m ≤ n) (h : ∀ i, i < n → (A i = true ↔ fr ≤ i ∧ i < re ∧ P i = true)) : dn A 0 m = dn P fr (min re m) := by
  rcases dn_spec P fr (min re m) with ⟨e, h1⟩ | ⟨q, e, h1, h2, h3, h4⟩
  · rw [e]
    refine dn_none fun j _ j2 => ?_
    cases ea : A j
    · rfl
    · obtain ⟨a, b, c⟩ := (h j (by omega)).1 ea
      rw [h1 j a (by omega)] at c; cases c
  · rw [e]
    refine dn_at (by omega) (Nat.zero_le _) ((h q (by omega)).2 ⟨h1, by omega, h3⟩) fun j j1 j2 => ?_
    cases ea : A j
    · rfl
    · obtain ⟨a, b, c⟩ := (h j (by omega)).1 ea
      rw [h4 j j1 (by omega)] at c; cases c

/-- What the law's own scan finds. -/
theorem done_plain {D : AD} {X : Nat → Wr} {T : Int → Nat × Nat} {v rc rr : Int} (A : Nat → Bool) (L : Lay D X) (ok : D.Ok)
    (hX : ∀ i, i < D.n → (X i).failed = false ∧ (X i).read = false ∧ (X i).c ≤ (X i).r ∧ -9223372036854775808 ≤ (X i).r) (hrr : -9223372036854775808 ≤ rr)
    (hT : (T v).1 ≤ (T v).2) (hT2 : (T v).2 ≤ D.n) (hTv : ∀ i, i < D.n → ((T v).1 ≤ i ∧ i < (T v).2 ↔ (X i).v = v)) (hmono : ∀ a b, (T v).1 ≤ a → a ≤ b → b < (T v).2 → D.call a ≤ D.call b)
    (hov : lcb D.OR D.OL rc D.d = -9223372036854775808 ∨ ∃ j, j < D.n ∧ (X j).r < rc ∧ (X j).c = lcb D.OR D.OL rc D.d)
    (hA : ∀ i, i < D.n → (A i = true ↔ (X i).v = v ∧ (X i).c ≤ rr ∧ TakesM D.n X D.nv rc rr i)) :
    (dn A 0 D.n = -1 → (admitF D rc rr (choicesF D T v rc rr) (D.n + 4)).1 = 0 ∧ (admitF D rc rr (choicesF D T v rc rr) (D.n + 4)).2.1 = -1) ∧
    (∀ q : Nat, dn A 0 D.n = q → (admitF D rc rr (choicesF D T v rc rr) (D.n + 4)).1 = (if dn A 0 q = -1 then 1 else 2) ∧ (admitF D rc rr (choicesF D T v rc rr) (D.n + 4)).2.1 = q) := by
  have hlast : ∀ i, i < D.n → (X i).last = (X i).c ∧ (X i).fr = (X i).r ∧ (X i).slot = true ∧ (X i).idle = false := fun i hi => by
    obtain ⟨h1, h2, _⟩ := hX i hi
    simp [Wr.last, Wr.fr, Wr.slot, Wr.idle, h1, h2]
  have h3 : ∀ fr to, to ≤ D.n → lst D.N3 D.p3 fr 0 to = -1 := fun fr to hto => by
    rcases lst_spec D.N3 D.p3 fr 0 to with ⟨e, _⟩ | ⟨q, e, h1, h2, h4, _⟩
    · exact e
    · rw [L.n3 q (by omega), (hlast q (by omega)).2.2.2] at h4; simp at h4
  have hmono2 : ∀ a b, a ≤ b → b < (T v).2 - (T v).1 → D.call ((T v).1 + a) ≤ D.call ((T v).1 + b) := fun a b h1 h2 => hmono _ _ (by omega) (by omega) (by omega)
  have hcb := bs_spec (fun k => D.call ((T v).1 + k)) (rr + 1) ((T v).2 - (T v).1) hmono2
  have hbl := fun k hk => bs_lt (R := fun k => D.call ((T v).1 + k)) (t := rr + 1) (n := (T v).2 - (T v).1) hmono2 k hk
  have hbd := fun k hk => bs_lt (R := D.R) (t := lcb D.OR D.OL rc D.d) (n := D.s) ok.sortR k hk
  generalize hc0 : choicesF D T v rc rr = c0
  have e1 : c0.fr = (T v).1 := by rw [← hc0]; rfl
  have e2 : c0.re = (T v).1 + bs (fun k => D.call ((T v).1 + k)) (rr + 1) ((T v).2 - (T v).1) := by rw [← hc0]; rfl
  have e3 : c0.id = c0.re := by rw [← hc0]; rfl
  have e4 : c0.bd = bs D.R (lcb D.OR D.OL rc D.d) D.s := by rw [← hc0]; rfl
  have e5 : c0.mg = false := by rw [← hc0]; rfl
  have hren : c0.re ≤ D.n := by rw [e2]; have := hcb.1; omega
  have hfre : c0.fr ≤ c0.re := by omega
  -- the law's test is the scan's test
  have hP : ∀ i, i < D.n → (A i = true ↔ c0.fr ≤ i ∧ i < c0.re ∧ (decide ((c0.bd : Int) ≤ D.N2 (D.p2 + i)) && D.takes rc rr i) = true) := fun i hi => by
    obtain ⟨l1, l2, l3, _⟩ := hlast i hi
    obtain ⟨_, _, x3, x4⟩ := hX i hi
    have hin : (c0.fr ≤ i ∧ i < c0.re) ↔ ((X i).v = v ∧ (X i).c ≤ rr) := by
      rw [e1, e2, ← hTv i hi, ← L.call i hi]
      constructor
      · rintro ⟨a, b⟩
        have := hcb.1
        have h5 := (hbl (i - (T v).1) (by omega)).1 (by omega)
        rw [show (T v).1 + (i - (T v).1) = i from by omega] at h5
        exact ⟨⟨a, by omega⟩, by omega⟩
      · rintro ⟨⟨a, b⟩, c⟩
        have h5 := (hbl (i - (T v).1) (by omega)).2 (by rw [show (T v).1 + (i - (T v).1) = i from by omega]; omega)
        exact ⟨a, by omega⟩
    have htk := takes_iff L ok rc rr i hi (by omega) hrr
    obtain ⟨k, f1, f2, f3, f4⟩ := L.slot i hi l3
    have hbd2 : (c0.bd : Int) ≤ D.N2 (D.p2 + i) ↔ lcb D.OR D.OL rc D.d ≤ (X i).r := by
      rw [L.n2 i hi, f1, if_pos (by omega), e4]
      have := hbd k f2
      rw [f3, l2] at this
      omega
    rw [hA i hi, Bool.and_eq_true, decide_eq_true_iff, hbd2, htk]
    constructor
    · rintro ⟨a, b, c⟩
      obtain ⟨p1, p2⟩ := hin.2 ⟨a, b⟩
      refine ⟨p1, p2, ?_, c⟩
      rcases hov with e | ⟨j, j1, j2, j3⟩
      · omega
      · by_cases hc : lcb D.OR D.OL rc D.d ≤ (X i).r
        · exact hc
        · obtain ⟨m1, m2, m3, _⟩ := hlast j j1
          exact absurd ⟨j, j1, fun e => by subst e; omega, m3, by omega, by omega⟩ c.2
    · rintro ⟨a, b, _, c⟩
      obtain ⟨p1, p2⟩ := hin.1 ⟨a, b⟩
      exact ⟨p1, p2, c⟩
  have o1 := offerN_scan h3 rc rr c0.re ((((D.n : Int) + 4)).toNat + 1) c0 ((D.n : Int) + 4) rfl (by omega) (by omega) (by omega)
  rw [show offerN D rc rr ((((D.n : Int) + 4)).toNat + 1) c0 ((D.n : Int) + 4) = offerF D rc rr c0 ((D.n : Int) + 4) from rfl] at o1
  have d1 : dn A 0 D.n = dn (fun i => decide ((c0.bd : Int) ≤ D.N2 (D.p2 + i)) && D.takes rc rr i) c0.fr c0.re := by
    have := dn_eq (m := D.n) (Nat.le_refl _) hP
    rwa [Nat.min_eq_left hren] at this
  rw [← d1] at o1
  unfold admitF
  generalize offerF D rc rr c0 ((D.n : Int) + 4) = O1 at *
  obtain ⟨i1, c1, s1⟩ := O1
  simp only at *
  obtain ⟨o1a, o1b⟩ := o1
  refine ⟨fun hd => ?_, fun q hd => ?_⟩
  · rw [if_pos (by omega)]
    exact ⟨rfl, rfl⟩
  · obtain ⟨g1, g2⟩ := o1b (by omega)
    have hi1 : i1 = q := by omega
    subst hi1
    have hqr : c0.fr ≤ q ∧ q < c0.re := by
      rcases dn_spec A 0 D.n with ⟨e, _⟩ | ⟨q', e, _, b2, b3, _⟩
      · omega
      · have : q' = q := by omega
        subst this
        have := (hP q' b2).1 b3
        exact ⟨this.1, this.2.1⟩
    rw [if_neg (by omega), if_neg (by rw [g1]; simp [e5])]
    have o2 := offerN_scan h3 rc rr q (s1.toNat + 1) c1 s1 (by rw [g1]; rfl) (by rw [g1]; show c0.id ≤ D.n; omega) (by rw [g1]; show q - c0.fr + 1 ≤ _; omega) (by rw [g1]; show ((q - c0.fr : Nat) : Int) + 1 ≤ s1; omega)
    rw [show offerN D rc rr (s1.toNat + 1) c1 s1 = offerF D rc rr c1 s1 from rfl] at o2
    have d2 : dn A 0 q = dn (fun i => decide ((c1.bd : Int) ≤ D.N2 (D.p2 + i)) && D.takes rc rr i) c1.fr q := by
      have := dn_eq (m := q) (by omega) hP
      rw [Nat.min_eq_right (by omega)] at this
      rw [this, g1]
    rw [← d2] at o2
    have o2a := o2.1
    split
    · rename_i hh
      rw [if_neg (by omega)]
      exact ⟨rfl, rfl⟩
    · rename_i hh
      have : dn A 0 q = -1 := by
        rcases dn_spec A 0 q with ⟨e, _⟩ | ⟨q', e, _⟩
        · exact e
        · omega
      rw [if_pos this]
      exact ⟨rfl, rfl⟩
end Go.Proofs.Qxb6609392a
