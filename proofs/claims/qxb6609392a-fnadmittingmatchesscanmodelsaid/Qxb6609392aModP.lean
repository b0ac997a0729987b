/-
  Plain: admitting as a walk over the list of its candidates.
-/
import Derived.Test.Qxb6609392aMix
namespace Go.Proofs.Qxb6609392a
open Go.RowKit

/-- The places of [fr, n) that P picks, the highest first. -/
def dl (P : Nat → Bool) (fr : Nat) : Nat → List Nat
  | 0 => []
  | n + 1 => if fr ≤ n ∧ P n = true then n :: dl P fr n else dl P fr n
/-- A list up to the first that Q picks. -/
def cutQ (Q : Nat → Bool) : List Nat → List Nat
  | [] => []
  | x :: l => if Q x = true then [x] else x :: cutQ Q l

theorem dl_cons {P : Nat → Bool} {fr x : Nat} {l : List Nat} : ∀ {n : Nat}, dl P fr n = x :: l → l = dl P fr x ∧ fr ≤ x ∧ x < n ∧ P x = true
  | 0, h => by simp [dl] at h
  | n + 1, h => by
    unfold dl at h
    split at h
    · rename_i hc
      simp at h
      obtain ⟨rfl, rfl⟩ := h
      exact ⟨rfl, hc.1, by omega, hc.2⟩
    · obtain ⟨h1, h2, h3, h4⟩ := dl_cons h
      exact ⟨h1, h2, by omega, h4⟩
theorem dl_low {P : Nat → Bool} {fr : Nat} : ∀ {n : Nat}, n ≤ fr → dl P fr n = []
  | 0, _ => rfl
  | n + 1, h => by
    unfold dl
    rw [if_neg (by omega)]
    exact dl_low (by omega)
theorem dl_mem {P : Nat → Bool} {fr i : Nat} : ∀ {n : Nat}, i ∈ dl P fr n → fr ≤ i ∧ i < n ∧ P i = true
  | 0, h => by simp [dl] at h
  | n + 1, h => by
    unfold dl at h
    split at h
    · rename_i hc
      rcases List.mem_cons.1 h with e | e
      · subst e; exact ⟨hc.1, by omega, hc.2⟩
      · obtain ⟨h1, h2, h3⟩ := dl_mem e
        exact ⟨h1, by omega, h3⟩
    · obtain ⟨h1, h2, h3⟩ := dl_mem h
      exact ⟨h1, by omega, h3⟩
theorem dl_congr {P P' : Nat → Bool} {fr : Nat} : ∀ {n : Nat}, (∀ i, fr ≤ i → i < n → P i = P' i) → dl P fr n = dl P' fr n
  | 0, _ => rfl
  | n + 1, h => by
    unfold dl
    rw [dl_congr (n := n) (fun i h1 h2 => h i h1 (by omega))]
    by_cases c : fr ≤ n
    · rw [h n c (by omega)]
    · rw [if_neg (fun x => c x.1), if_neg (fun x => c x.1)]
theorem dl_len {P : Nat → Bool} {fr : Nat} : ∀ {n : Nat}, (dl P fr n).length ≤ n
  | 0 => Nat.le_refl _
  | n + 1 => by
    have ih := dl_len (P := P) (fr := fr) (n := n)
    unfold dl
    split
    · rw [List.length_cons]; omega
    · omega
theorem cutQ_nil {Q : Nat → Bool} {l : List Nat} : cutQ Q l = [] ↔ l = [] := by
  cases l with
  | nil => simp [cutQ]
  | cons x l => simp [cutQ]; split <;> simp
theorem cutQ_congr {Q Q' : Nat → Bool} : ∀ {l : List Nat}, (∀ i ∈ l, Q i = Q' i) → cutQ Q l = cutQ Q' l
  | [], _ => rfl
  | x :: l, h => by
    unfold cutQ
    rw [h x (by simp), cutQ_congr (l := l) (fun i hi => h i (by simp [hi]))]
theorem cutQ_mem {Q : Nat → Bool} {i : Nat} : ∀ {l : List Nat}, i ∈ cutQ Q l → i ∈ l
  | [], h => h
  | x :: l, h => by
    unfold cutQ at h
    split at h
    · simp at h; simp [h]
    · rcases List.mem_cons.1 h with e | e
      · simp [e]
      · exact List.mem_cons_of_mem _ (cutQ_mem e)
theorem cutQ_len {Q : Nat → Bool} : ∀ {l : List Nat}, (cutQ Q l).length ≤ l.length
  | [] => Nat.le_refl _
  | x :: l => by
    unfold cutQ
    split
    · simp
    · have := cutQ_len (Q := Q) (l := l); simp; exact this

theorem lst_dl (N : Nat → Int) (p fr : Nat) (bd : Int) : ∀ n, lst N p fr bd n = match dl (fun i => decide (bd ≤ N (p + i))) fr n with | [] => -1 | x :: _ => (x : Int)
  | 0 => rfl
  | n + 1 => by
    unfold lst dl
    by_cases c : fr ≤ n ∧ bd ≤ N (p + n)
    · rw [if_pos c, if_pos ⟨c.1, by simpa using c.2⟩]
    · rw [if_neg c, if_neg (fun x => c ⟨x.1, by simpa using x.2⟩)]
      exact lst_dl N p fr bd n

/-- The candidates that are left. -/
def P1 (D : AD) (bd : Nat) (i : Nat) : Bool := decide ((bd : Int) ≤ D.N2 (D.p2 + i))
def P3 (D : AD) (i : Nat) : Bool := decide (0 ≤ D.N3 (D.p3 + i))
def Q3 (D : AD) (cl : Int) (i : Nat) : Bool := decide (D.call i ≤ cl)
def restC (D : AD) (c : Ch) : List Nat := dl (P1 D c.bd) c.fr c.re ++ cutQ (Q3 D c.cl) (dl (P3 D) c.fr c.id)
structure InvC (D : AD) (mrg : Bool) (c : Ch) : Prop where
  mg : c.mg = true → restC D c = []
  any : mrg = (c.mg || (dl (P3 D) c.fr c.id).any (Q3 D c.cl))

theorem nextF_list {D : AD} {mrg : Bool} {c : Ch} {s : Int} (h : InvC D mrg c) (hs : 0 < s) :
    (nextF D c s).1 = (match restC D c with | [] => -1 | x :: _ => (x : Int)) ∧ restC D (nextF D c s).2.1 = (restC D c).tail ∧ (nextF D c s).2.2 = s - 1 ∧ InvC D mrg (nextF D c s).2.1 ∧ (nextF D c s).2.1.fr = c.fr := by
  have e1 := lst_dl D.N2 D.p2 c.fr c.bd c.re
  have e3 := lst_dl D.N3 D.p3 c.fr 0 c.id
  have hre : dl (P1 D c.bd) c.fr (if c.fr < c.re then c.fr else c.re) = [] := dl_low (by split <;> omega)
  unfold nextF
  rw [if_neg (by omega)]
  change lst D.N2 D.p2 c.fr c.bd c.re = (match dl (P1 D c.bd) c.fr c.re with | [] => -1 | x :: _ => (x : Int)) at e1
  change lst D.N3 D.p3 c.fr 0 c.id = (match dl (P3 D) c.fr c.id with | [] => -1 | x :: _ => (x : Int)) at e3
  have hmg := h.mg
  have hany := h.any
  unfold restC at hmg ⊢
  cases h1 : dl (P1 D c.bd) c.fr c.re with
  | cons x l =>
    rw [h1] at e1 hmg
    obtain ⟨r1, r2, r3, r4⟩ := dl_cons h1
    have hm : c.mg = false := by
      cases hh : c.mg with
      | false => rfl
      | true => simpa using hmg hh
    have e1' : lst D.N2 D.p2 c.fr c.bd c.re = (x : Int) := e1
    rw [if_pos ⟨by omega, by omega⟩, e1']
    refine ⟨rfl, ?_, rfl, ⟨fun q => ?_, hany⟩, rfl⟩
    · show dl (P1 D c.bd) c.fr (x : Int).toNat ++ _ = _
      rw [Int.toNat_natCast, ← r1]; rfl
    · change c.mg = true at q; rw [hm] at q; cases q
  | nil =>
    rw [h1] at e1 hmg
    have e1' : lst D.N2 D.p2 c.fr c.bd c.re = -1 := e1
    rw [if_neg (by omega)]
    cases h3 : dl (P3 D) c.fr c.id with
    | nil =>
      rw [h3] at e3 hany hmg
      have e3' : lst D.N3 D.p3 c.fr 0 c.id = -1 := e3
      rw [if_neg (by omega), e3']
      have hid : dl (P3 D) c.fr (max (-1 : Int).toNat c.fr) = [] := dl_low (by simp)
      refine ⟨rfl, ?_, rfl, ⟨fun _ => ?_, ?_⟩, rfl⟩
      · show dl (P1 D c.bd) c.fr _ ++ cutQ _ (dl (P3 D) c.fr _) = _
        rw [hre, hid]; rfl
      · show dl (P1 D c.bd) c.fr _ ++ cutQ _ (dl (P3 D) c.fr _) = _
        rw [hre, hid]; rfl
      · show mrg = (c.mg || (dl (P3 D) c.fr _).any _)
        rw [hid]; exact hany
    | cons x l =>
      rw [h3] at e3 hany hmg
      obtain ⟨r1, r2, r3, r4⟩ := dl_cons h3
      have e3' : lst D.N3 D.p3 c.fr 0 c.id = (x : Int) := e3
      rw [e3', Int.toNat_natCast]
      have hm : c.mg = false := by
        cases hh : c.mg with
        | false => rfl
        | true =>
          have := hmg hh
          simp [cutQ_nil] at this
      by_cases hq : D.call x ≤ c.cl
      · rw [if_pos ⟨by omega, hq⟩]
        have hQ : Q3 D c.cl x = true := by simpa [Q3] using hq
        have hid : dl (P3 D) c.fr c.fr = [] := dl_low (Nat.le_refl _)
        refine ⟨?_, ?_, rfl, ⟨fun _ => ?_, ?_⟩, rfl⟩
        · simp [cutQ, hQ]
        · show dl (P1 D c.bd) c.fr _ ++ cutQ _ (dl (P3 D) c.fr c.fr) = _
          rw [hre, hid]; simp [cutQ, hQ]
        · show dl (P1 D c.bd) c.fr _ ++ cutQ _ (dl (P3 D) c.fr c.fr) = _
          rw [hre, hid]; rfl
        · show mrg = (true || _)
          rw [hany]; simp [hQ]
      · rw [if_neg (fun z => hq z.2)]
        have hQ : Q3 D c.cl x = false := by simpa [Q3] using hq
        have hmx : max x c.fr = x := by omega
        refine ⟨?_, ?_, rfl, ⟨fun q => ?_, ?_⟩, rfl⟩
        · simp [cutQ, hQ]
        · show dl (P1 D c.bd) c.fr _ ++ cutQ _ (dl (P3 D) c.fr (max x c.fr)) = _
          rw [hre, hmx, ← r1]; simp [cutQ, hQ]
        · change c.mg = true at q; rw [hm] at q; cases q
        · show mrg = (c.mg || (dl (P3 D) c.fr (max x c.fr)).any _)
          rw [hmx, ← r1, hany]
          simp [hQ]

/-- offer, over a list. -/
def offL (tk : Nat → Bool) : List Nat → Int → Int × List Nat × Int
  | [], s => if s ≤ 0 then (-1, [], -1) else (-1, [], s - 1)
  | i :: l, s => if s ≤ 0 then (-1, i :: l, -1) else if tk i = true then ((i : Int), l, s - 1) else offL tk l (s - 1)
theorem offL_congr {tk tk' : Nat → Bool} : ∀ {l : List Nat} {s : Int}, (∀ i ∈ l, tk i = tk' i) → offL tk l s = offL tk' l s
  | [], _, _ => rfl
  | x :: l, s, h => by
    unfold offL
    rw [h x (by simp), offL_congr (l := l) (fun i hi => h i (by simp [hi]))]
theorem offL_sub {tk : Nat → Bool} {i : Nat} : ∀ {l : List Nat} {s : Int}, i ∈ (offL tk l s).2.1 → i ∈ l
  | [], s, h => by unfold offL at h; split at h <;> simp at h
  | x :: l, s, h => by
    unfold offL at h
    split at h
    · exact h
    · split at h
      · exact List.mem_cons_of_mem _ h
      · exact List.mem_cons_of_mem _ (offL_sub h)

theorem offerN_list {D : AD} {rc rr : Int} {mrg : Bool} : ∀ (k : Nat) (c : Ch) (s : Int), s.toNat + 1 ≤ k → InvC D mrg c →
    (offerN D rc rr k c s).1 = (offL (D.takes rc rr) (restC D c) s).1 ∧ restC D (offerN D rc rr k c s).2.1 = (offL (D.takes rc rr) (restC D c) s).2.1 ∧ (offerN D rc rr k c s).2.2 = (offL (D.takes rc rr) (restC D c) s).2.2 ∧ InvC D mrg (offerN D rc rr k c s).2.1 ∧ (offerN D rc rr k c s).2.1.fr = c.fr
  | 0, c, s, hk, _ => by omega
  | k + 1, c, s, hk, hI => by
    by_cases hs : s ≤ 0
    · have hn : nextF D c s = (-1, c, -1) := by unfold nextF; rw [if_pos hs]
      have ho : offL (D.takes rc rr) (restC D c) s = (-1, restC D c, -1) := by
        cases restC D c <;> (unfold offL; rw [if_pos hs])
      unfold offerN
      rw [hn, ho]
      simp only
      rw [if_pos (by omega)]
      exact ⟨rfl, rfl, rfl, hI, rfl⟩
    · obtain ⟨n1, n2, n3, n4, n5⟩ := nextF_list hI (show 0 < s by omega)
      unfold offerN
      cases hr : restC D c with
      | nil =>
        rw [hr] at n1 n2
        have n1' : (nextF D c s).1 = -1 := n1
        have ho : offL (D.takes rc rr) [] s = (-1, [], s - 1) := by unfold offL; rw [if_neg hs]
        rw [ho, if_pos (by omega)]
        exact ⟨rfl, n2, n3, n4, n5⟩
      | cons x l =>
        rw [hr] at n1 n2
        have n1' : (nextF D c s).1 = (x : Int) := n1
        have n2' : restC D (nextF D c s).2.1 = l := n2
        rw [n1', if_neg (by omega), Int.toNat_natCast]
        by_cases ht : D.takes rc rr x = true
        · have ho : offL (D.takes rc rr) (x :: l) s = ((x : Int), l, s - 1) := by unfold offL; rw [if_neg hs, if_pos ht]
          rw [ho, if_pos ht]
          exact ⟨n1', n2', n3, n4, n5⟩
        · have ho : offL (D.takes rc rr) (x :: l) s = offL (D.takes rc rr) l (s - 1) := by rw [offL, if_neg hs, if_neg ht]
          rw [ho, if_neg ht]
          obtain ⟨i1, i2, i3, i4, i5⟩ := offerN_list (rc := rc) (rr := rr) k (nextF D c s).2.1 (nextF D c s).2.2 (by rw [n3]; omega) n4
          rw [n2', n3] at i1 i2 i3
          rw [n3] at i4 i5 ⊢
          exact ⟨i1, i2, i3, i4, i5.trans n5⟩

/-- admitting, over the list of its candidates. -/
def admL (tk : Nat → Bool) (seq : List Nat) (mrg : Bool) (idl : Nat → Bool) (s : Int) : Int × Int × Int :=
  if (offL tk seq s).1 < 0 then (0, -1, (offL tk seq s).2.2)
  else if (mrg = true ∧ (offL tk seq s).2.1 = []) ∧ idl (offL tk seq s).1.toNat = true then (2, (offL tk seq s).1, (offL tk seq s).2.2)
  else if 0 ≤ (offL tk (offL tk seq s).2.1 (offL tk seq s).2.2).1 then (2, (offL tk seq s).1, (offL tk (offL tk seq s).2.1 (offL tk seq s).2.2).2.2)
  else (1, (offL tk seq s).1, (offL tk (offL tk seq s).2.1 (offL tk seq s).2.2).2.2)

theorem admit_list {D : AD} {rc rr s : Int} {mrg : Bool} {c : Ch} (hI : InvC D mrg c) : admitF D rc rr c s = admL (D.takes rc rr) (restC D c) mrg (fun f => !(dl (P3 D) c.fr f).isEmpty) s := by
  obtain ⟨a1, a2, a3, a4, a5⟩ := offerN_list (rc := rc) (rr := rr) (s.toNat + 1) c s (Nat.le_refl _) hI
  change (offerF D rc rr c s).1 = _ at a1
  change restC D (offerF D rc rr c s).2.1 = _ at a2
  change (offerF D rc rr c s).2.2 = _ at a3
  change InvC D mrg (offerF D rc rr c s).2.1 at a4
  obtain ⟨b1, _, b3, _, _⟩ := offerN_list (rc := rc) (rr := rr) ((offerF D rc rr c s).2.2.toNat + 1) (offerF D rc rr c s).2.1 (offerF D rc rr c s).2.2 (Nat.le_refl _) a4
  change (offerF D rc rr (offerF D rc rr c s).2.1 (offerF D rc rr c s).2.2).1 = _ at b1
  change (offerF D rc rr (offerF D rc rr c s).2.1 (offerF D rc rr c s).2.2).2.2 = _ at b3
  rw [a2, a3] at b1 b3
  have hmg : (offerF D rc rr c s).2.1.mg = true ↔ mrg = true ∧ (offL (D.takes rc rr) (restC D c) s).2.1 = [] := by
    rw [← a2]
    constructor
    · intro h
      exact ⟨by rw [a4.any, h]; rfl, a4.mg h⟩
    · rintro ⟨h1, h2⟩
      have := a4.any
      rw [h1] at this
      unfold restC at h2
      rw [List.append_eq_nil_iff, cutQ_nil] at h2
      rw [h2.2] at this
      simpa using this.symm
  have hid : ∀ f : Nat, 0 ≤ lst D.N3 D.p3 c.fr 0 f ↔ (!(dl (P3 D) c.fr f).isEmpty) = true := fun f => by
    have e := lst_dl D.N3 D.p3 c.fr 0 f
    change _ = (match dl (P3 D) c.fr f with | [] => -1 | x :: _ => (x : Int)) at e
    cases h : dl (P3 D) c.fr f with
    | nil => rw [h] at e; simp [e]
    | cons x l =>
      rw [h] at e
      have e' : lst D.N3 D.p3 c.fr 0 f = (x : Int) := e
      rw [e']; simp
  unfold admitF admL
  rw [← a1, ← a3]
  simp only [hmg, hid]
  rw [a1, a3] at *
  rw [b1, b3]
end Go.Proofs.Qxb6609392a
