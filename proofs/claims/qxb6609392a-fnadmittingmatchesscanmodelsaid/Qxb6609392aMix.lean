/-
  Plain: the sorted moments and their owners; the first slots; the latest calls.
-/
import Derived.Test.Qxb6609392aMemC
namespace Go.Proofs.Qxb6609392a
open Go.RowKit

def mixK (P : List Nat) (V E : Nat → Int) (k : Nat) : Int := if k < P.length then V (P.getD k 0) else E (k - P.length)
def mixT (P : List Nat) (k : Nat) : Int := if k < P.length then ((P.getD k 0 : Nat) : Int) else -1

theorem mixK_at (P : List Nat) (V E : Nat → Int) (m k : Nat) (hk : k < P.length + m) : (P.map (fun i => Value.int .i64 (V i)) ++ (List.range m).map (fun j => Value.int .i64 (E j)))[k]? = some (.int .i64 (mixK P V E k)) := by
  unfold mixK
  by_cases c : k < P.length
  · rw [List.getElem?_append_left (by simpa using c), List.getElem?_map, if_pos c]
    simp [c]
  · rw [List.getElem?_append_right (by simp; omega), List.getElem?_map, if_neg c, List.length_map, List.getElem?_range (by omega)]
    rfl
theorem mixT_at (P : List Nat) (m k : Nat) (hk : k < P.length + m) : (P.map (fun (i : Nat) => Value.int .i64 (i : Int)) ++ (List.range m).map (fun _ => Value.int .i64 (-1)))[k]? = some (.int .i64 (mixT P k)) := by
  unfold mixT
  by_cases c : k < P.length
  · rw [List.getElem?_append_left (by simpa using c), List.getElem?_map, if_pos c]
    simp [c]
  · rw [List.getElem?_append_right (by simp; omega), List.getElem?_map, if_neg c, List.length_map, List.getElem?_range (by omega)]
    rfl

theorem picks_nodup (p : Nat → Bool) (k : Nat) : (picks p k).Nodup := List.nodup_range.filter _

/-- Behind the sorting: place k belongs to nobody or to one of P, whose value lies there. -/
structure Owners (s : Nat) (P : List Nat) (V K T : Nat → Int) : Prop where
  some : ∀ k, k < s → T k = -1 ∨ ∃ i : Nat, i ∈ P ∧ T k = i ∧ K k = V i
  all : ∀ i, i ∈ P → ∃ k, k < s ∧ T k = (i : Int)
  inj : ∀ k k', k < s → k' < s → 0 ≤ T k → T k = T k' → k = k'
  full : P.length = s → ∀ k, k < s → T k ≠ -1

theorem Owners.of {P : List Nat} {m : Nat} {V E K T : Nat → Int} (hn : P.Nodup) (h : PermF (P.length + m) (mixK P V E) (mixT P) K T) : Owners (P.length + m) P V K T := by
  obtain ⟨π, ρ, h1, h2⟩ := h
  have hT : ∀ k, k < P.length + m → (T k = -1 ∧ ¬ π k < P.length) ∨ ∃ h : π k < P.length, T k = (P[π k] : Nat) ∧ K k = V P[π k] := fun k hk => by
    obtain ⟨e1, e2⟩ := h2 k hk
    by_cases c : π k < P.length
    · refine .inr ⟨c, ?_, ?_⟩
      · rw [e2]; simp [mixT, c]
      · rw [e1]; simp [mixK, c]
    · exact .inl ⟨by rw [e2]; simp [mixT, c], c⟩
  refine ⟨fun k hk => ?_, fun i hi => ?_, fun k k' hk hk' h0 he => ?_, fun hm k hk he => ?_⟩
  · rcases hT k hk with ⟨e, _⟩ | ⟨c, e1, e2⟩
    · exact .inl e
    · exact .inr ⟨_, List.getElem_mem c, e1, e2⟩
  · obtain ⟨q, hq, rfl⟩ := List.mem_iff_getElem.1 hi
    obtain ⟨_, p2, _, p4⟩ := h1 q (by omega)
    refine ⟨ρ q, p2, ?_⟩
    rcases hT (ρ q) p2 with ⟨_, c⟩ | ⟨c, e1, _⟩
    · rw [p4] at c; omega
    · rw [e1]; simp [p4]
  · rcases hT k hk with ⟨e, _⟩ | ⟨c, e1, _⟩
    · omega
    rcases hT k' hk' with ⟨e, _⟩ | ⟨c', e1', _⟩
    · omega
    have : P[π k] = P[π k'] := by omega
    have := (List.getElem_inj hn).1 this
    have a := (h1 k hk).2.2.1
    have b := (h1 k' hk').2.2.1
    rw [← a, this, b]
  · rcases hT k hk with ⟨_, c⟩ | ⟨c, e1, _⟩
    · have := (h1 k hk).1; omega
    · omega

/-- The first slots and the calls' leaves after k places. -/
structure Firsts (n k : Nat) (X : Nat → Wr) (T F C : Nat → Int) : Prop where
  f : ∀ i : Nat, i < n → (∃ s : Nat, s < k ∧ T s = i ∧ F i = s) ∨ ((∀ s : Nat, s < k → T s ≠ i) ∧ F i = -1)
  c : ∀ s, s < k → C s = if 0 ≤ T s then (X (T s).toNat).last else -9223372036854775808
theorem Firsts.zero {n : Nat} {X : Nat → Wr} {T F C : Nat → Int} (h : ∀ i, i < n → F i = -1) : Firsts n 0 X T F C := ⟨fun i hi => .inr ⟨fun s hs => by omega, h i hi⟩, fun s hs => by omega⟩
theorem Firsts.skip {n k : Nat} {X : Nat → Wr} {T F C C' : Nat → Int} (h : Firsts n k X T F C) (ht : T k = -1) (hc : C' k = -9223372036854775808) (hc' : ∀ s, s < k → C' s = C s) : Firsts n (k + 1) X T F C' := by
  refine ⟨fun i hi => ?_, fun s hs => ?_⟩
  · rcases h.f i hi with ⟨s, h1, h2, h3⟩ | ⟨h1, h2⟩
    · exact .inl ⟨s, by omega, h2, h3⟩
    · refine .inr ⟨fun s hs => ?_, h2⟩
      by_cases e : s = k
      · subst e; omega
      · exact h1 s (by omega)
  · by_cases e : s = k
    · subst e; rw [hc, ht]; simp
    · rw [hc' s (by omega)]; exact h.c s (by omega)
theorem Firsts.take {n k j : Nat} {X : Nat → Wr} {T F C F' C' : Nat → Int} (h : Firsts n k X T F C) (ht : T k = j) (hf : F' j = k) (hf' : ∀ i, i ≠ j → F' i = F i) (hc : C' k = (X j).last) (hc' : ∀ s, s < k → C' s = C s) : Firsts n (k + 1) X T F' C' := by
  refine ⟨fun i hi => ?_, fun s hs => ?_⟩
  · by_cases e : i = j
    · subst e; exact .inl ⟨k, by omega, ht, hf⟩
    · rw [hf' i e]
      rcases h.f i hi with ⟨s, h1, h2, h3⟩ | ⟨h1, h2⟩
      · exact .inl ⟨s, by omega, h2, h3⟩
      · refine .inr ⟨fun s hs => ?_, h2⟩
        by_cases e' : s = k
        · subst e'; omega
        · exact h1 s (by omega)
  · by_cases e : s = k
    · subst e; rw [hc, ht]; simp
    · rw [hc' s (by omega)]; exact h.c s (by omega)

theorem lay_of {D : AD} {X : Nat → Wr} {T C : Nat → Int} (hcall : ∀ i, i < D.n → D.call i = (X i).c) (hCL : ∀ i, i < D.n → D.CL i = (X i).last) (hCF : ∀ i, i < D.n → D.CF i = (X i).fr)
    (ow : Owners D.s (picks (fun i => (X i).slot) D.n) (fun i => (X i).fr) D.R T) (fi : Firsts D.n D.s X T D.fst C) (h1 : ∀ k, k < D.s → D.N1 (D.p1 + k) = C k)
    (h2 : ∀ i, i < D.n → D.N2 (D.p2 + i) = if 0 ≤ D.fst i then D.fst i else -9223372036854775808) (h3 : ∀ i, i < D.n → D.N3 (D.p3 + i) = if (X i).idle then 0 else -9223372036854775808) : Lay D X := by
  refine ⟨hcall, hCL, hCF, fun i hi hs => ?_, fun i hi hs => ?_, fun k hk => ?_, fun i j hi hj h0 he => ?_, h2, h3⟩
  · obtain ⟨q, q1, q2⟩ := ow.all i (picks_mem.2 ⟨hi, hs⟩)
    rcases fi.f i hi with ⟨s, s1, s2, s3⟩ | ⟨h, _⟩
    · refine ⟨s, s3, s1, ?_, ?_⟩
      · rcases ow.some s s1 with e | ⟨j, _, e1, e2⟩
        · omega
        · have : j = i := by omega
          subst this; exact e2
      · rw [h1 s s1, fi.c s s1, if_pos (by omega), s2]; simp
    · exact absurd q2 (h q q1)
  · rcases fi.f i hi with ⟨s, s1, s2, s3⟩ | ⟨_, h⟩
    · rcases ow.some s s1 with e | ⟨j, e0, e1, e2⟩
      · omega
      · have : j = i := by omega
        subst this
        have := (picks_mem.1 e0).2
        rw [hs] at this; cases this
    · exact h
  · rw [h1 k hk, fi.c k hk]
    rcases ow.some k hk with e | ⟨j, e0, e1, e2⟩
    · left; rw [e]; simp
    · right
      have hj := picks_mem.1 e0
      refine ⟨j, hj.1, hj.2, ?_⟩
      rcases fi.f j hj.1 with ⟨s, s1, s2, s3⟩ | ⟨h, _⟩
      · have := ow.inj s k s1 hk (by omega) (by omega)
        omega
      · exact absurd e1 (h k hk)
  · rcases fi.f i hi with ⟨s, s1, s2, s3⟩ | ⟨_, h⟩
    · rcases fi.f j hj with ⟨s', s1', s2', s3'⟩ | ⟨_, h⟩
      · have : s = s' := by omega
        subst this; omega
      · omega
    · omega

/-- The latest calls after k places. -/
structure Lates (k : Nat) (X : Nat → Wr) (T L : Nat → Int) : Prop where
  up : ∀ a b, a ≤ b → b < k → (X (T a).toNat).c ≤ L b
  one : ∀ b, b < k → ∃ a, a ≤ b ∧ L b = (X (T a).toNat).c
theorem Lates.zero {X : Nat → Wr} {T L : Nat → Int} : Lates 0 X T L := ⟨fun a b _ h => by omega, fun b h => by omega⟩
theorem Lates.step {k : Nat} {X : Nat → Wr} {T L L' : Nat → Int} (h : Lates k X T L) (hl : L' k = if k = 0 then (X (T k).toNat).c else max (X (T k).toNat).c (L (k - 1))) (hl' : ∀ s, s < k → L' s = L s) : Lates (k + 1) X T L' := by
  refine ⟨fun a b hab hb => ?_, fun b hb => ?_⟩
  · by_cases e : b = k
    · subst e
      rw [hl]
      by_cases ea : a = b
      · subst ea; split <;> omega
      · have := h.up a (b - 1) (by omega) (by omega)
        rw [if_neg (by omega)]; omega
    · rw [hl' b (by omega)]; exact h.up a b hab (by omega)
  · by_cases e : b = k
    · subst e
      by_cases e0 : b = 0
      · subst e0; exact ⟨0, Nat.le_refl _, by rw [hl]; simp⟩
      · obtain ⟨a, a1, a2⟩ := h.one (b - 1) (by omega)
        rw [if_neg e0] at hl
        by_cases c : (X (T b).toNat).c ≤ L (b - 1)
        · exact ⟨a, by omega, by rw [hl]; omega⟩
        · exact ⟨b, Nat.le_refl _, by rw [hl]; omega⟩
    · rw [hl' b (by omega)]
      exact h.one b (by omega)

/-- z is the latest call of a completed write that returned before t, or the least number. -/
def LcbS (n : Nat) (X : Nat → Wr) (t z : Int) : Prop := (∀ i, i < n → (X i).failed = false → (X i).r < t → (X i).c ≤ z) ∧ (z = -9223372036854775808 ∨ ∃ i, i < n ∧ (X i).failed = false ∧ (X i).r < t ∧ (X i).c = z)
theorem lcb_of {n d : Nat} {X : Nat → Wr} {R T L : Nat → Int} (hs : ∀ a b, a ≤ b → b < d → R a ≤ R b) (ow : Owners d (picks (fun i => !(X i).failed) n) (fun i => (X i).r) R T) (hd : (picks (fun i => !(X i).failed) n).length = d) (hl : Lates d X T L) (t : Int) : LcbS n X t (lcb R L t d) := by
  have hb := bs_lt (R := R) (t := t) (n := d) hs
  obtain ⟨hb1, hb2, hb3⟩ := bs_spec R t d hs
  have hT : ∀ k, k < d → ∃ i : Nat, i < n ∧ (X i).failed = false ∧ T k = i ∧ R k = (X i).r := fun k hk => by
    rcases ow.some k hk with e | ⟨i, e0, e1, e2⟩
    · exact absurd e (ow.full hd k hk)
    · have := picks_mem.1 e0
      exact ⟨i, this.1, by simpa using this.2, e1, e2⟩
  refine ⟨fun i hi hf hr => ?_, ?_⟩
  · obtain ⟨k, k1, k2⟩ := ow.all i (picks_mem.2 ⟨hi, by simp [hf]⟩)
    obtain ⟨j, _, _, j3, j4⟩ := hT k k1
    have : j = i := by omega
    subst this
    have hk := (hb k k1).2 (by omega)
    unfold lcb
    rw [if_neg (by omega)]
    have := hl.up k (bs R t d - 1) (by omega) (by omega)
    rw [k2] at this
    simpa using this
  · unfold lcb
    by_cases c : bs R t d = 0
    · left; rw [if_pos c]
    · right
      rw [if_neg c]
      obtain ⟨a, a1, a2⟩ := hl.one (bs R t d - 1) (by omega)
      obtain ⟨j, j1, j2, j3, j4⟩ := hT a (by omega)
      refine ⟨j, j1, j2, ?_, ?_⟩
      · have := (hb a (by omega)).1 (by omega); omega
      · rw [a2, j3]; simp
end Go.Proofs.Qxb6609392a
