/-
  Plain: the scan model's candidates are admitting's.
-/
import Derived.Test.Qxb6609392aModP
namespace Go.Proofs.Qxb6609392a
open Go.RowKit

def seqM (X : Nat → Wr) (fr ca : Nat) (ov rc : Int) : List Nat := dl (fun i => (X i).slot && decide (ov ≤ (X i).fr)) fr ca ++ cutQ (fun i => decide ((X i).c ≤ rc)) (dl (fun i => (X i).idle) fr ca)
def mrgM (X : Nat → Wr) (fr ca : Nat) (rc : Int) : Bool := (dl (fun i => (X i).idle) fr ca).any (fun i => decide ((X i).c ≤ rc))
def idlM (X : Nat → Wr) (fr f : Nat) : Bool := !(dl (fun i => (X i).idle) fr f).isEmpty

theorem offL_in {tk : Nat → Bool} : ∀ {l : List Nat} {s : Int}, 0 ≤ (offL tk l s).1 → (offL tk l s).1.toNat ∈ l
  | [], s, h => by unfold offL at h; split at h <;> simp at h
  | x :: l, s, h => by
    unfold offL at h ⊢
    split at h
    · simp at h
    · rename_i hs
      rw [if_neg hs]
      split at h
      · rename_i ht
        rw [if_pos ht]; simp
      · rename_i ht
        rw [if_neg ht]
        exact List.mem_cons_of_mem _ (offL_in h)

theorem admL_congr {tk tk' : Nat → Bool} {seq : List Nat} {mrg : Bool} {idl idl' : Nat → Bool} {s : Int} (h1 : ∀ i ∈ seq, tk i = tk' i) (h2 : ∀ i ∈ seq, idl i = idl' i) : admL tk seq mrg idl s = admL tk' seq mrg idl' s := by
  unfold admL
  rw [offL_congr (tk := tk) (tk' := tk') h1]
  by_cases c : (offL tk' seq s).1 < 0
  · rw [if_pos c, if_pos c]
  · rw [if_neg c, if_neg c, h2 _ (offL_in (by omega)), offL_congr (tk := tk) (tk' := tk') (l := (offL tk' seq s).2.1) (fun i hi => h1 i (offL_sub hi))]

theorem LcbS.unique {n : Nat} {X : Nat → Wr} {t z z' : Int} (h : LcbS n X t z) (h' : LcbS n X t z') (hc : ∀ i, i < n → -9223372036854775808 ≤ (X i).c) : z = z' := by
  obtain ⟨a, b⟩ := h
  obtain ⟨a', b'⟩ := h'
  rcases b with e | ⟨i, i1, i2, i3, i4⟩
  · rcases b' with e' | ⟨j, j1, j2, j3, j4⟩
    · omega
    · have := a j j1 j2 j3
      have := hc j j1
      omega
  · rcases b' with e' | ⟨j, j1, j2, j3, j4⟩
    · have := a' i i1 i2 i3
      have := hc i i1
      omega
    · have := a j j1 j2 j3
      have := a' i i1 i2 i3
      omega

theorem admit_model {D : AD} {X : Nat → Wr} {T : Int → Nat × Nat} {v rc rr s ov : Int} {tk : Nat → Bool} (L : Lay D X) (ok : D.Ok) (hT : (T v).1 ≤ (T v).2) (hT2 : (T v).2 ≤ D.n) (hmono : ∀ a b, (T v).1 ≤ a → a ≤ b → b < (T v).2 → D.call a ≤ D.call b)
    (lc : LcbS D.n X rc (lcb D.OR D.OL rc D.d)) (hov : LcbS D.n X rc ov) (hc : ∀ i, i < D.n → -9223372036854775808 ≤ (X i).c) (hfr : ∀ i, i < D.n → -9223372036854775808 ≤ (X i).fr) (hrr : -9223372036854775808 ≤ rr) (htk : ∀ i, i < D.n → (tk i = true ↔ TakesM D.n X D.nv rc rr i)) :
    admitF D rc rr (choicesF D T v rc rr) s = admL tk (seqM X (T v).1 (choicesF D T v rc rr).re ov rc) (mrgM X (T v).1 (choicesF D T v rc rr).re rc) (idlM X (T v).1) s := by
  have hmono2 : ∀ a b, a ≤ b → b < (T v).2 - (T v).1 → D.call ((T v).1 + a) ≤ D.call ((T v).1 + b) := fun a b h1 h2 => hmono _ _ (by omega) (by omega) (by omega)
  have hcb := (bs_spec (fun k => D.call ((T v).1 + k)) (rr + 1) ((T v).2 - (T v).1) hmono2).1
  have hre : (choicesF D T v rc rr).re ≤ D.n := by show (T v).1 + _ ≤ _; omega
  have hI : InvC D ((dl (P3 D) (choicesF D T v rc rr).fr (choicesF D T v rc rr).id).any (Q3 D (choicesF D T v rc rr).cl)) (choicesF D T v rc rr) := ⟨(fun h => by cases h), by show _ = (false || _); simp⟩
  rw [admit_list hI]
  have hz := hov.unique lc hc
  subst hz
  have e3 : ∀ i, i < D.n → P3 D i = (X i).idle := fun i hi => by
    unfold P3
    rw [L.n3 i hi]
    cases (X i).idle <;> simp
  have e1 : ∀ i, i < D.n → P1 D (choicesF D T v rc rr).bd i = ((X i).slot && decide (lcb D.OR D.OL rc D.d ≤ (X i).fr)) := fun i hi => by
    unfold P1
    rw [L.n2 i hi]
    show decide (((bs D.R (lcb D.OR D.OL rc D.d) D.s : Nat) : Int) ≤ _) = _
    cases hs : (X i).slot with
    | false =>
      rw [L.none i hi hs]
      simp
      omega
    | true =>
      obtain ⟨k, k1, k2, k3, _⟩ := L.slot i hi hs
      rw [k1, if_pos (by omega)]
      have hb := bs_lt (R := D.R) (t := lcb D.OR D.OL rc D.d) (n := D.s) ok.sortR k k2
      rw [k3] at hb
      simp only [Bool.true_and]
      by_cases q : (X i).fr < lcb D.OR D.OL rc D.d
      · have := hb.2 q
        rw [decide_eq_false (by omega), decide_eq_false (by omega)]
      · have : ¬ k < bs D.R (lcb D.OR D.OL rc D.d) D.s := fun z => q (hb.1 z)
        rw [decide_eq_true (by omega), decide_eq_true (by omega)]
  have eq : ∀ i, i < D.n → Q3 D rc i = decide ((X i).c ≤ rc) := fun i hi => by unfold Q3; rw [L.call i hi]
  have d3 : dl (P3 D) (T v).1 (choicesF D T v rc rr).re = dl (fun i => (X i).idle) (T v).1 (choicesF D T v rc rr).re := dl_congr (fun i _ h2 => e3 i (by omega))
  have hseq : restC D (choicesF D T v rc rr) = seqM X (T v).1 (choicesF D T v rc rr).re (lcb D.OR D.OL rc D.d) rc := by
    show dl (P1 D (choicesF D T v rc rr).bd) (T v).1 (choicesF D T v rc rr).re ++ cutQ (Q3 D rc) (dl (P3 D) (T v).1 (choicesF D T v rc rr).re) = _
    unfold seqM
    rw [d3, dl_congr (P' := fun i => (X i).slot && decide (lcb D.OR D.OL rc D.d ≤ (X i).fr)) (fun i _ h2 => e1 i (by omega)), cutQ_congr (Q' := fun i => decide ((X i).c ≤ rc)) (fun i hi => eq i (by have := (dl_mem hi).2.1; omega))]
  have hmem : ∀ i ∈ seqM X (T v).1 (choicesF D T v rc rr).re (lcb D.OR D.OL rc D.d) rc, i < D.n := fun i hi => by
    unfold seqM at hi
    rcases List.mem_append.1 hi with h | h
    · have := (dl_mem h).2.1; omega
    · have := (dl_mem (cutQ_mem h)).2.1; omega
  have hmrg : (dl (P3 D) (choicesF D T v rc rr).fr (choicesF D T v rc rr).id).any (Q3 D (choicesF D T v rc rr).cl) = mrgM X (T v).1 (choicesF D T v rc rr).re rc := by
    show (dl (P3 D) (T v).1 (choicesF D T v rc rr).re).any (Q3 D rc) = _
    unfold mrgM
    rw [d3, Bool.eq_iff_iff, List.any_eq_true, List.any_eq_true]
    constructor
    · rintro ⟨i, h1, h2⟩
      exact ⟨i, h1, by rw [← eq i (by have := (dl_mem h1).2.1; omega)]; exact h2⟩
    · rintro ⟨i, h1, h2⟩
      exact ⟨i, h1, by rw [eq i (by have := (dl_mem h1).2.1; omega)]; exact h2⟩
  rw [hseq, hmrg]
  refine admL_congr (fun i hi => ?_) (fun i hi => ?_)
  · have hin := hmem i hi
    rw [Bool.eq_iff_iff, htk i hin]
    exact takes_iff L ok rc rr i hin (hfr i hin) hrr
  · show (!(dl (P3 D) (T v).1 i).isEmpty) = idlM X (T v).1 i
    unfold idlM
    rw [dl_congr (P' := fun i => (X i).idle) (fun j _ h2 => e3 j (by have := hmem i hi; omega))]

/-- What the model's first loop finds, after i writes. -/
structure FC (n : Nat) (X : Nat → Wr) (rv rr : Int) (fr ca : Nat) (fd : Bool) : Prop where
  no : fd = false → fr = 0 ∧ ca = 0 ∧ ∀ j, j < n → (X j).v ≠ rv
  yes : fd = true → fr < n ∧ (X fr).v = rv ∧ (∀ j, j < fr → (X j).v ≠ rv) ∧ fr ≤ ca ∧ ca ≤ n ∧ (∀ j, ca ≤ j → j < n → (X j).v = rv → rr < (X j).c) ∧ (ca = fr ∨ ∃ j, ca = j + 1 ∧ fr ≤ j ∧ (X j).v = rv ∧ (X j).c ≤ rr)
theorem FC.zero (X : Nat → Wr) (rv rr : Int) : FC 0 X rv rr 0 0 false := ⟨fun _ => ⟨rfl, rfl, fun j hj => by omega⟩, fun h => by cases h⟩
theorem FC.other {n : Nat} {X : Nat → Wr} {rv rr : Int} {fr ca : Nat} {fd : Bool} (h : FC n X rv rr fr ca fd) (hv : (X n).v ≠ rv) : FC (n + 1) X rv rr fr ca fd := by
  refine ⟨fun e => ?_, fun e => ?_⟩
  · obtain ⟨h1, h2, h3⟩ := h.no e
    refine ⟨h1, h2, fun j hj => ?_⟩
    by_cases q : j = n
    · subst q; exact hv
    · exact h3 j (by omega)
  · obtain ⟨h1, h2, h3, h4, h5, h6, h7⟩ := h.yes e
    refine ⟨by omega, h2, h3, h4, by omega, fun j j1 j2 j3 => ?_, h7⟩
    by_cases q : j = n
    · subst q; exact absurd j3 hv
    · exact h6 j j1 (by omega) j3
theorem FC.late {n : Nat} {X : Nat → Wr} {rv rr : Int} {fr ca : Nat} {fd : Bool} (h : FC n X rv rr fr ca fd) (hv : (X n).v = rv) (hc : rr < (X n).c) : FC (n + 1) X rv rr (if fd then fr else n) (if fd then ca else n) true := by
  refine ⟨(fun e => by cases e), fun _ => ?_⟩
  cases fd with
  | false =>
    obtain ⟨h1, h2, h3⟩ := h.no rfl
    refine ⟨by simp, hv, fun j hj => h3 j (by simpa using hj), by simp, by simp, fun j j1 j2 j3 => ?_, .inl rfl⟩
    have : j = n := by simp at j1; omega
    subst this; exact hc
  | true =>
    obtain ⟨h1, h2, h3, h4, h5, h6, h7⟩ := h.yes rfl
    refine ⟨by simp; omega, h2, h3, h4, by simp; omega, fun j j1 j2 j3 => ?_, h7⟩
    by_cases q : j = n
    · subst q; exact hc
    · exact h6 j j1 (by omega) j3
theorem FC.take {n : Nat} {X : Nat → Wr} {rv rr : Int} {fr ca : Nat} {fd : Bool} (h : FC n X rv rr fr ca fd) (hv : (X n).v = rv) (hc : (X n).c ≤ rr) : FC (n + 1) X rv rr (if fd then fr else n) (n + 1) true := by
  refine ⟨(fun e => by cases e), fun _ => ?_⟩
  cases fd with
  | false =>
    obtain ⟨h1, h2, h3⟩ := h.no rfl
    exact ⟨by simp, hv, fun j hj => h3 j (by simpa using hj), by simp, by omega, fun j j1 j2 j3 => by omega, .inr ⟨n, rfl, by simp, hv, hc⟩⟩
  | true =>
    obtain ⟨h1, h2, h3, h4, h5, h6, h7⟩ := h.yes rfl
    exact ⟨by simp; omega, h2, h3, by simp; omega, by omega, fun j j1 j2 j3 => by omega, .inr ⟨n, rfl, by simp; omega, hv, hc⟩⟩
theorem FC.le {n : Nat} {X : Nat → Wr} {rv rr : Int} {fr ca : Nat} {fd : Bool} (h : FC n X rv rr fr ca fd) : fr ≤ ca ∧ ca ≤ n := by
  cases fd with
  | false => have := h.no rfl; omega
  | true => have := h.yes rfl; omega

/-- It is the span's begin, and the end of those called in time. -/
theorem FC.eq {n : Nat} {X : Nat → Wr} {rv rr : Int} {fr ca : Nat} {fd : Bool} {a b : Nat} (h : FC n X rv rr fr ca fd) (hab : a ≤ b) (hb : b ≤ n) (hs : ∀ i, i < n → (a ≤ i ∧ i < b ↔ (X i).v = rv)) (hz : a = b → a = 0)
    (hm : ∀ x y, x ≤ y → y < b - a → (X (a + x)).c ≤ (X (a + y)).c) : fr = a ∧ ca = a + bs (fun k => (X (a + k)).c) (rr + 1) (b - a) := by
  obtain ⟨q1, q2, q3⟩ := bs_spec (fun k => (X (a + k)).c) (rr + 1) (b - a) hm
  cases fd with
  | false =>
    obtain ⟨h1, h2, h3⟩ := h.no rfl
    have e : a = b := by
      by_cases c : a < b
      · exact absurd ((hs a (by omega)).1 ⟨Nat.le_refl _, c⟩) (h3 a (by omega))
      · omega
    have := hz e
    omega
  | true =>
    obtain ⟨h1, h2, h3, h4, h5, h6, h7⟩ := h.yes rfl
    have hfr := (hs fr h1).2 h2
    have e : fr = a := by
      by_cases c : a < fr
      · exact absurd ((hs a (by omega)).1 ⟨Nat.le_refl _, by omega⟩) (h3 a c)
      · omega
    subst e
    refine ⟨rfl, ?_⟩
    have hlow : ca ≤ fr + bs (fun k => (X (fr + k)).c) (rr + 1) (b - fr) := by
      rcases h7 with e | ⟨j, e, j0, j1, j2⟩
      · omega
      · have hj := (hs j (by omega)).2 j1
        by_cases c : j - fr < bs (fun k => (X (fr + k)).c) (rr + 1) (b - fr)
        · omega
        · have := q3 (j - fr) (by omega) (by omega)
          rw [show fr + (j - fr) = j from by omega] at this
          omega
    by_cases c : ca < fr + bs (fun k => (X (fr + k)).c) (rr + 1) (b - fr)
    · have hz2 := q2 (ca - fr) (by omega)
      rw [show fr + (ca - fr) = ca from by omega] at hz2
      have := h6 ca (Nat.le_refl _) (by omega) ((hs ca (by omega)).1 ⟨by omega, by omega⟩)
      omega
    · omega
end Go.Proofs.Qxb6609392a
