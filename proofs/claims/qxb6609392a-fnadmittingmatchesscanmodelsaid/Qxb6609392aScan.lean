/-
  offer where no write is idle: a plain scan downward.
-/
import Derived.Test.Qxb6609392aLay
namespace Go.Proofs.Qxb6609392a

/-- The last place in [fr, n) at which P holds, or -1. -/
def dn (P : Nat → Bool) (fr : Nat) : Nat → Int
  | 0 => -1
  | n + 1 => if fr ≤ n ∧ P n = true then n else dn P fr n
theorem dn_skip {P : Nat → Bool} {fr q : Nat} : ∀ {re : Nat}, q ≤ re → (∀ j, q ≤ j → j < re → fr ≤ j → P j = false) → dn P fr re = dn P fr q
  | 0, h, _ => by rw [show q = 0 from by omega]
  | n + 1, h, hf => by
    by_cases e : q = n + 1
    · rw [e]
    · rw [show dn P fr (n + 1) = dn P fr n from if_neg (by rintro ⟨h1, h2⟩; rw [hf n (by omega) (by omega) h1] at h2; cases h2)]
      exact dn_skip (by omega) fun j h1 h2 h3 => hf j h1 (by omega) h3
theorem dn_at {P : Nat → Bool} {fr q re : Nat} (hq : q < re) (hf : fr ≤ q) (hP : P q = true) (h : ∀ j, q < j → j < re → P j = false) : dn P fr re = q := by
  rw [dn_skip (q := q + 1) (by omega) fun j h1 h2 _ => h j (by omega) h2]
  exact if_pos ⟨hf, hP⟩
theorem dn_none {P : Nat → Bool} {fr re : Nat} (h : ∀ j, fr ≤ j → j < re → P j = false) : dn P fr re = -1 := by
  rw [dn_skip (q := 0) (Nat.zero_le _) fun j _ h2 h3 => h j h3 h2]; rfl

/-- One next where no write is idle. -/
theorem nextF_scan {D : AD} (h3 : ∀ fr to, to ≤ D.n → lst D.N3 D.p3 fr 0 to = -1) (c : Ch) (s : Int) (hs : 0 < s) (hid : c.id ≤ D.n) :
    (∃ q : Nat, c.fr ≤ q ∧ q < c.re ∧ (c.bd : Int) ≤ D.N2 (D.p2 + q) ∧ (∀ j, q < j → j < c.re → D.N2 (D.p2 + j) < c.bd) ∧ nextF D c s = ((q : Int), { c with re := q }, s - 1)) ∨
    ((∀ j, c.fr ≤ j → j < c.re → D.N2 (D.p2 + j) < c.bd) ∧ (nextF D c s).1 = -1 ∧ (nextF D c s).2.2 = s - 1) := by
  unfold nextF
  rw [if_neg (by omega), h3 _ _ hid]
  rcases lst_spec D.N2 D.p2 c.fr c.bd c.re with ⟨e, h1⟩ | ⟨q, e, h1, h2, h4, h5⟩
  · rw [e, if_neg (by omega), if_neg (by omega)]
    exact .inr ⟨h1, rfl, rfl⟩
  · rw [e, if_pos ⟨by omega, by omega⟩]
    exact .inl ⟨q, h1, h2, h4, h5, rfl⟩

theorem offerN_scan {D : AD} (h3 : ∀ fr to, to ≤ D.n → lst D.N3 D.p3 fr 0 to = -1) (rc rr : Int) : ∀ (re k : Nat) (c : Ch) (s : Int), c.re = re → c.id ≤ D.n → re - c.fr + 1 ≤ k → ((re - c.fr : Nat) : Int) + 1 ≤ s →
    (offerN D rc rr k c s).1 = dn (fun i => decide ((c.bd : Int) ≤ D.N2 (D.p2 + i)) && D.takes rc rr i) c.fr re ∧
    (0 ≤ (offerN D rc rr k c s).1 → (offerN D rc rr k c s).2.1 = { c with re := (offerN D rc rr k c s).1.toNat } ∧ s - (re - (offerN D rc rr k c s).1) ≤ (offerN D rc rr k c s).2.2) := by
  intro re
  induction re using Nat.strongRecOn with
  | ind re ih =>
    intro k c s hc hid hk hs
    obtain ⟨k', rfl⟩ : ∃ k', k = k' + 1 := ⟨k - 1, by omega⟩
    rcases nextF_scan h3 c s (by omega) hid with ⟨q, h1, h2, h4, h5, e⟩ | ⟨h1, e1, e2⟩
    · unfold offerN
      rw [e]
      simp only
      rw [if_neg (by omega)]
      rw [show ((q : Int)).toNat = q from rfl]
      by_cases ht : D.takes rc rr q = true
      · rw [if_pos ht]
        refine ⟨?_, fun _ => ⟨rfl, by show s - ((re : Int) - q) ≤ s - 1; omega⟩⟩
        rw [← hc]
        exact (dn_at h2 h1 (by simp [h4, ht]) fun j j1 j2 => by simp; intro h; have := h5 j j1 j2; omega).symm
      · rw [if_neg ht]
        have := ih q (by omega) k' { c with re := q } (s - 1) rfl hid (by show q - c.fr + 1 ≤ k'; omega) (by show ((q - c.fr : Nat) : Int) + 1 ≤ s - 1; omega)
        obtain ⟨a1, a2⟩ := this
        refine ⟨?_, fun h0 => ?_⟩
        · rw [a1]
          show dn _ c.fr q = dn _ c.fr re
          refine (dn_skip (by omega) fun j j1 j2 _ => ?_).symm
          by_cases ej : j = q
          · subst ej; simp [ht]
          · have := h5 j (by omega) (by omega)
            simp; intro h; omega
        · obtain ⟨b1, b2⟩ := a2 h0
          exact ⟨b1, by omega⟩
    · unfold offerN
      rw [e1]
      rw [if_pos (by omega)]
      refine ⟨?_, fun h0 => by simp at h0⟩
      show (-1 : Int) = _
      rw [← hc]
      exact (dn_none fun j j1 j2 => by have := h1 j j1 j2; simp; intro h; omega).symm
end Go.Proofs.Qxb6609392a
