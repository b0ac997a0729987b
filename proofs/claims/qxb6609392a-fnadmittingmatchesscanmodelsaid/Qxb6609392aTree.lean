/-
  The max tree: greatest and last.
-/
import Derived.Test.Qxb6609392aLook
namespace Go.Proofs.Qxb6609392a
open Go.RowKit

theorem cell_alloc_any {W : World} {a : Addr} {v : Value} (h : W.cell? a = some v) (o : Obj) : (W.alloc o).cell? a = some v := (World.cell?_alloc_lt _ _ _ (World.block_lt_of_cell? W a h)).trans h
theorem cell_keep {W W' : World} (hB : Below W.heap.size W W') {p : Addr} {v : Value} (h : W.cell? p = some v) : W'.cell? p = some v :=
  (hB.cell (World.block_lt_of_cell? W p h)).trans h
theorem IntsF.keep {W W' : World} {g n : Nat} {N : Nat → Int} (h : IntsF W g n N) (hB : Below W.heap.size W W') : IntsF W' g n N := fun k hk => cell_keep hB (h k hk)
theorem below_trans {a b c : World} (h : Below a.heap.size a b) (k : Below b.heap.size b c) : Below a.heap.size a c := h.trans (k.mono h.size)

/-- The nodes of a max tree with p leaves. -/
structure Tree (p : Nat) (N : Nat → Int) : Prop where
  pow : ∃ e, p = 2 ^ e
  node : ∀ k, 1 ≤ k → k < p → N k = max (N (2 * k)) (N (2 * k + 1))

theorem Tree.pos {p : Nat} {N : Nat → Int} (h : Tree p N) : 1 ≤ p := by
  obtain ⟨e, rfl⟩ := h.pow
  exact Nat.one_le_two_pow

theorem ifmax (a b : Int) : (if a < b then b else a) = max a b := by split <;> omega

/-- What greatest goes by: below x. -/
def Gre (N : Nat → Int) (p fr to : Nat) (a b : Nat) (g : Int) : Prop :=
  ∀ x : Int, (x < -9223372036854775808 ∨ ∃ i, fr ≤ i ∧ i < to ∧ x < N (p + i)) ↔ (x < g ∨ ∃ k, a ≤ k ∧ k < b ∧ x < N k)

theorem Gre.start (N : Nat → Int) (p fr to : Nat) : Gre N p fr to (fr + p) (to + p) (-9223372036854775808) := by
  intro x
  constructor
  · rintro (h | ⟨i, h1, h2, h3⟩)
    · exact .inl h
    · exact .inr ⟨p + i, by omega, by omega, h3⟩
  · rintro (h | ⟨k, h1, h2, h3⟩)
    · exact .inl h
    · exact .inr ⟨k - p, by omega, by omega, by rwa [show p + (k - p) = k from by omega]⟩

theorem Gre.left {N : Nat → Int} {p fr to a b : Nat} {g : Int} (h : Gre N p fr to a b g) (hab : a < b) : Gre N p fr to (a + 1) b (max g (N a)) := by
  intro x
  rw [h x]
  constructor
  · rintro (h | ⟨k, h1, h2, h3⟩)
    · exact .inl (by omega)
    · by_cases e : k = a
      · subst e; exact .inl (by omega)
      · exact .inr ⟨k, by omega, h2, h3⟩
  · rintro (h | ⟨k, h1, h2, h3⟩)
    · by_cases e : x < g
      · exact .inl e
      · exact .inr ⟨a, Nat.le_refl _, hab, by omega⟩
    · exact .inr ⟨k, by omega, h2, h3⟩

theorem Gre.right {N : Nat → Int} {p fr to a b : Nat} {g : Int} (h : Gre N p fr to a (b + 1) g) (hab : a ≤ b) : Gre N p fr to a b (max g (N b)) := by
  intro x
  rw [h x]
  constructor
  · rintro (h | ⟨k, h1, h2, h3⟩)
    · exact .inl (by omega)
    · by_cases e : k = b
      · subst e; exact .inl (by omega)
      · exact .inr ⟨k, by omega, by omega, h3⟩
  · rintro (h | ⟨k, h1, h2, h3⟩)
    · by_cases e : x < g
      · exact .inl e
      · exact .inr ⟨b, hab, by omega, by omega⟩
    · exact .inr ⟨k, h1, by omega, h3⟩

theorem Gre.up {N : Nat → Int} {p fr to a b : Nat} {g : Int} (ht : Tree p N) (h : Gre N p fr to (2 * a) (2 * b) g) (ha : 1 ≤ a) (hb : b ≤ p) : Gre N p fr to a b g := by
  intro x
  rw [h x]
  constructor
  · rintro (h | ⟨k, h1, h2, h3⟩)
    · exact .inl h
    · refine .inr ⟨k / 2, by omega, by omega, ?_⟩
      rw [ht.node (k / 2) (by omega) (by omega)]
      by_cases e : k % 2 = 0
      · rw [show 2 * (k / 2) = k from by omega]; omega
      · rw [show 2 * (k / 2) + 1 = k from by omega]; omega
  · rintro (h | ⟨k, h1, h2, h3⟩)
    · exact .inl h
    · rw [ht.node k (by omega) (by omega)] at h3
      by_cases e : x < N (2 * k)
      · exact .inr ⟨2 * k, by omega, by omega, e⟩
      · exact .inr ⟨2 * k + 1, by omega, by omega, by omega⟩

theorem Gre.done {N : Nat → Int} {p fr to a b : Nat} {g : Int} (h : Gre N p fr to a b g) (hab : b ≤ a) : ∀ x, x < g ↔ (x < -9223372036854775808 ∨ ∃ i, fr ≤ i ∧ i < to ∧ x < N (p + i)) := by
  intro x
  rw [h x]
  constructor
  · exact .inl
  · rintro (h | ⟨k, h1, h2, h3⟩)
    · exact h
    · omega

set_option maxHeartbeats 2000000 in
theorem greatest_any (g p cap fr to : Nat) (N : Nat → Int) (w : World) (h : IntsF w g (2 * p) N) (ht : Tree p N) (hp : p ≤ 65536) (hto : to ≤ p) (hfr : fr ≤ p) :
    Calls Try.prog 42 #[.agg #[.int .i64 p, .slice (some ⟨g, 0, none⟩) (2 * p) cap], .int .i64 fr, .int .i64 to] w fun e w' =>
      (∃ G, e = .returned (.int .i64 G) ∧ ∀ x, x < G ↔ (x < -9223372036854775808 ∨ ∃ i, fr ≤ i ∧ i < to ∧ x < N (p + i))) ∧ Below w.heap.size w w' := by
  have HT : Hid _ := ht
  have hp1 := ht.pos
  clear ht
  go_enter Try.func42, Try.ntmps42
  go_wp2
  go_quiet (fail)
  go_wp2
  have hc0 : ((w.alloc (.cells #[.int .i64 p, .slice (some ⟨g, 0, none⟩) (2 * p) cap] 62)).drewN nq).cell? ⟨w.heap.size, 1, none⟩ = some (.slice (some ⟨g, 0, none⟩) (2 * p) cap) := by simp [go_sem]
  have hb0 : Below w.heap.size w ((w.alloc (.cells #[.int .i64 p, .slice (some ⟨g, 0, none⟩) (2 * p) cap] 62)).drewN nq) := belowN (below1 w _) _
  generalize ((w.alloc (.cells #[.int .i64 p, .slice (some ⟨g, 0, none⟩) (2 * p) cap] 62)).drewN nq) = W1 at *
  have h1 := h.keep hb0
  have H1 : Hid _ := h1
  clear h h1
  go_loopw [1, 2, 7] (fun va vb vg wr => ∃ (a b : Nat) (G : Int), 1 ≤ a ∧ a ≤ 2 * p ∧ b ≤ 2 * p ∧ va = .int .i64 a ∧ vb = .int .i64 b ∧ vg = .int .i64 G ∧ Gre N p fr to a b G ∧ wr = W1) (fun va vb _ _ => (intOf vb).toNat + (intOf va).toNat)
  case atStart => exact ⟨fr + p, to + p, _, by omega, by omega, by omega, by go_num, by go_num, rfl, Gre.start N p fr to, rfl⟩
  case round =>
    obtain ⟨a, b, G, ha1, ha, hb, rfl, rfl, rfl, hG, rfl⟩ := hrel
    by_cases hlt : a < b
    · have HG : Hid (Gre N p fr to a b G) := hG
      clear hG
      have ca := H1.out a (by omega)
      have cb := H1.out (b - 1) (by omega)
      by_cases hao : a % 2 = 1 <;> by_cases hbo : b % 2 = 1
      · have q : Gre N p fr to ((a + 1) / 2) ((b - 1) / 2) (max (max G (N a)) (N (b - 1))) := by
          refine Gre.up HT.out ?_ (by omega) (by omega)
          rw [show 2 * ((a + 1) / 2) = a + 1 from by omega, show 2 * ((b - 1) / 2) = b - 1 from by omega]
          refine Gre.right ?_ (by omega)
          rw [show b - 1 + 1 = b from by omega]
          exact Gre.left HG.out hlt
        have Q : Hid _ := q
        clear q
        go_wp2
        exact ⟨⟨(a + 1) / 2, (b - 1) / 2, _, by omega, by omega, by omega, by go_num, by go_num, by rw [ifmax, ifmax], Q.out, trivial⟩, by simp [intOf]; omega⟩
      · have q : Gre N p fr to ((a + 1) / 2) (b / 2) (max G (N a)) := by
          refine Gre.up HT.out ?_ (by omega) (by omega)
          rw [show 2 * ((a + 1) / 2) = a + 1 from by omega, show 2 * (b / 2) = b from by omega]
          exact Gre.left HG.out hlt
        have Q : Hid _ := q
        clear q
        go_wp2
        exact ⟨⟨(a + 1) / 2, b / 2, _, by omega, by omega, by omega, by go_num, by go_num, by rw [ifmax], Q.out, trivial⟩, by simp [intOf]; omega⟩
      · have q : Gre N p fr to (a / 2) ((b - 1) / 2) (max G (N (b - 1))) := by
          refine Gre.up HT.out ?_ (by omega) (by omega)
          rw [show 2 * (a / 2) = a from by omega, show 2 * ((b - 1) / 2) = b - 1 from by omega]
          refine Gre.right ?_ (by omega)
          rw [show b - 1 + 1 = b from by omega]
          exact HG.out
        have Q : Hid _ := q
        clear q
        go_wp2
        exact ⟨⟨a / 2, (b - 1) / 2, _, by omega, by omega, by omega, by go_num, by go_num, by rw [ifmax], Q.out, trivial⟩, by simp [intOf]; omega⟩
      · have q : Gre N p fr to (a / 2) (b / 2) G := by
          refine Gre.up HT.out ?_ (by omega) (by omega)
          rw [show 2 * (a / 2) = a from by omega, show 2 * (b / 2) = b from by omega]
          exact HG.out
        have Q : Hid _ := q
        clear q
        go_wp2
        exact ⟨⟨a / 2, b / 2, _, by omega, by omega, by omega, by go_num, by go_num, rfl, Q.out, trivial⟩, by simp [intOf]; omega⟩
    · have HG : Hid _ := hG.done (by omega)
      clear hG
      go_wp2
      go_returns
      exact ⟨⟨G, rfl, HG.out⟩, hb0⟩

/-- Nothing under a node is greater than the node. -/
theorem Tree.under {p : Nat} {N : Nat → Int} (ht : Tree p N) : ∀ (j k q : Nat), 1 ≤ k → (k + 1) * 2 ^ j ≤ 2 * p → k * 2 ^ j ≤ q → q < (k + 1) * 2 ^ j → N q ≤ N k
  | 0, k, q, _, _, h3, h4 => by
    have : q = k := by omega
    rw [this]; exact Int.le_refl _
  | j + 1, k, q, h1, h2, h3, h4 => by
    have e1 : k * 2 ^ (j + 1) = (2 * k) * 2 ^ j := by rw [Nat.pow_succ, Nat.mul_comm (2 ^ j) 2, ← Nat.mul_assoc, Nat.mul_comm k 2]
    have e2 : (k + 1) * 2 ^ (j + 1) = (2 * k + 1 + 1) * 2 ^ j := by rw [Nat.pow_succ, Nat.mul_comm (2 ^ j) 2, ← Nat.mul_assoc, Nat.mul_comm (k + 1) 2, show 2 * (k + 1) = 2 * k + 1 + 1 from by omega]
    have hpos : 1 ≤ 2 ^ j := Nat.one_le_two_pow
    have hk : k < p := by
      have h5 : (2 * k + 1 + 1) * 1 ≤ (2 * k + 1 + 1) * 2 ^ j := Nat.mul_le_mul_left _ hpos
      omega
    rw [ht.node k h1 hk]
    rw [e1] at h3
    rw [e2] at h2 h4
    have e3 : (2 * k + 1) * 2 ^ j ≤ (2 * k + 1 + 1) * 2 ^ j := Nat.mul_le_mul_right _ (by omega)
    by_cases hq : q < (2 * k + 1) * 2 ^ j
    · have := Tree.under ht j (2 * k) q (by omega) (by omega) h3 hq
      omega
    · have := Tree.under ht j (2 * k + 1) q (by omega) h2 (by omega) h4
      omega

/-- The climb: node k at level l, j levels above the leaves; from its first leaf on up to the leaf before p + to none reaches the bound. -/
structure Climb (N : Nat → Int) (p to : Nat) (bd : Int) (k : Nat) : Prop where
  at_ : ∃ l j, p = 2 ^ (l + j) ∧ 2 ^ l ≤ k ∧ k < 2 ^ (l + 1) ∧ k * 2 ^ j ≤ p + to ∧ ∀ q, k * 2 ^ j ≤ q → q < p + to → N q < bd

theorem two_pow_split {l j : Nat} : 2 ^ (l + j) = 2 ^ l * 2 ^ j := Nat.pow_add 2 l j

theorem Climb.start {N : Nat → Int} {p to : Nat} {bd : Int} (ht : Tree p N) (h1 : 1 ≤ to) (h2 : to ≤ p) (hb : N (p + to - 1) < bd) : Climb N p to bd (p + to - 1) := by
  obtain ⟨e, he⟩ := ht.pow
  refine ⟨e, 0, he, by omega, by rw [Nat.pow_succ]; omega, by omega, fun q q1 q2 => ?_⟩
  have : q = p + to - 1 := by omega
  rw [this]; exact hb

theorem Climb.bounds {N : Nat → Int} {p to : Nat} {bd : Int} {k : Nat} (h : Climb N p to bd k) : 1 ≤ k ∧ k < 2 * p := by
  obtain ⟨l, j, hp, h1, h2, _, _⟩ := h.at_
  have a := @Nat.one_le_two_pow l
  have b := @Nat.one_le_two_pow j
  have c : 2 ^ l * 1 ≤ 2 ^ l * 2 ^ j := Nat.mul_le_mul_left _ b
  rw [two_pow_split] at hp
  rw [Nat.pow_succ] at h2
  omega

theorem Climb.up {N : Nat → Int} {p to : Nat} {bd : Int} {k : Nat} (ht : Tree p N) (h : Climb N p to bd k) (hk : k ≠ 1) (hc : k % 2 = 0 ∨ N (k - 1) < bd) : Climb N p to bd (k / 2) := by
  obtain ⟨l, j, hp, h1, h2, h4, h3⟩ := h.at_
  match l, hp, h1, h2 with
  | 0, _, h1, h2 => simp at h1 h2; omega
  | l + 1, hp, h1, h2 =>
    have e1 : 2 ^ (l + 1) = 2 * 2 ^ l := by rw [Nat.pow_succ, Nat.mul_comm]
    have e2 : 2 ^ (l + 1 + 1) = 4 * 2 ^ l := by rw [Nat.pow_succ, Nat.pow_succ]; omega
    have e3 : 2 ^ (j + 1) = 2 * 2 ^ j := by rw [Nat.pow_succ, Nat.mul_comm]
    refine ⟨l, j + 1, by rw [hp]; congr 1; omega, by omega, by omega, ?_, fun q q1 q2 => ?_⟩
    · rw [e3, ← Nat.mul_assoc, Nat.mul_comm (k / 2) 2]
      exact Nat.le_trans (Nat.mul_le_mul_right _ (by omega)) h4
    rw [e3, ← Nat.mul_assoc, Nat.mul_comm (k / 2) 2] at q1
    by_cases hq : k * 2 ^ j ≤ q
    · exact h3 q hq q2
    · rcases hc with hc | hc
      · rw [show 2 * (k / 2) = k from by omega] at q1; exact absurd q1 hq
      · by_cases ho : k % 2 = 0
        · rw [show 2 * (k / 2) = k from by omega] at q1; exact absurd q1 hq
        · rw [show 2 * (k / 2) = k - 1 from by omega] at q1
          have hle : k * 2 ^ j ≤ 2 * p := by
            rw [hp, show l + 1 + j = (l + 1) + j from rfl, two_pow_split, e1]
            have : k * 2 ^ j ≤ (4 * 2 ^ l) * 2 ^ j := Nat.mul_le_mul_right _ (by omega)
            rw [Nat.mul_assoc] at this ⊢
            omega
          have := Tree.under ht j (k - 1) q (by omega) (by rw [show k - 1 + 1 = k from by omega]; exact hle) q1 (by rw [show k - 1 + 1 = k from by omega]; omega)
          omega

theorem Climb.top {N : Nat → Int} {p to : Nat} {bd : Int} (h : Climb N p to bd 1) : ∀ i, i < to → N (p + i) < bd := by
  obtain ⟨l, j, hp, h1, _, _, h3⟩ := h.at_
  have hl : l = 0 := by
    match l, h1 with
    | 0, _ => rfl
    | l + 1, h1 => have := @Nat.one_le_two_pow l; rw [Nat.pow_succ] at h1; omega
  subst hl
  intro i hi
  exact h3 (p + i) (by rw [hp]; simp) (by omega)

/-- The descent: node k reaches the bound, no leaf behind it does. -/
structure Down (N : Nat → Int) (p to : Nat) (bd : Int) (k : Nat) : Prop where
  at_ : ∃ l j, p = 2 ^ (l + j) ∧ 2 ^ l ≤ k ∧ k < 2 ^ (l + 1) ∧ bd ≤ N k ∧ (k + 1) * 2 ^ j ≤ p + to ∧ ∀ q, (k + 1) * 2 ^ j ≤ q → q < p + to → N q < bd

theorem Climb.turn {N : Nat → Int} {p to : Nat} {bd : Int} {k : Nat} (h : Climb N p to bd k) (hk : k % 2 = 1) (hk1 : k ≠ 1) (hb : bd ≤ N (k - 1)) : Down N p to bd (k - 1) := by
  obtain ⟨l, j, hp, h1, h2, h4, h3⟩ := h.at_
  refine ⟨l, j, hp, ?_, by omega, hb, ?_, ?_⟩
  · match l, h1 with
    | 0, _ => simp; omega
    | l + 1, h1 => rw [Nat.pow_succ] at h1 ⊢; omega
  · rw [show k - 1 + 1 = k from by omega]; exact h4
  · rw [show k - 1 + 1 = k from by omega]; exact h3

theorem Down.bounds {N : Nat → Int} {p to : Nat} {bd : Int} {k : Nat} (h : Down N p to bd k) : 1 ≤ k ∧ k < 2 * p := by
  obtain ⟨l, j, hp, h1, h2, _⟩ := h.at_
  have a := @Nat.one_le_two_pow l
  have b := @Nat.one_le_two_pow j
  have c : 2 ^ l * 1 ≤ 2 ^ l * 2 ^ j := Nat.mul_le_mul_left _ b
  rw [two_pow_split] at hp
  rw [Nat.pow_succ] at h2
  omega

theorem Down.step {N : Nat → Int} {p to : Nat} {bd : Int} {k : Nat} (ht : Tree p N) (h : Down N p to bd k) (hk : k < p) (hto : to ≤ p) :
    (bd ≤ N (2 * k + 1) → Down N p to bd (2 * k + 1)) ∧ (¬ bd ≤ N (2 * k + 1) → Down N p to bd (2 * k)) := by
  have hb := h.bounds
  obtain ⟨l, j, hp, h1, h2, h3, h4, h5⟩ := h.at_
  match j, hp, h4, h5 with
  | 0, hp, _, _ => simp at hp; omega
  | j + 1, hp, h4, h5 =>
    have e2 : (k + 1) * 2 ^ (j + 1) = (2 * k + 1 + 1) * 2 ^ j := by rw [Nat.pow_succ, Nat.mul_comm (2 ^ j) 2, ← Nat.mul_assoc, Nat.mul_comm (k + 1) 2, show 2 * (k + 1) = 2 * k + 1 + 1 from by omega]
    have e3 : 2 ^ (l + 1) = 2 * 2 ^ l := by rw [Nat.pow_succ, Nat.mul_comm]
    have e4 : 2 ^ (l + 1 + 1) = 4 * 2 ^ l := by rw [Nat.pow_succ, Nat.pow_succ]; omega
    rw [e2] at h4 h5
    have e5 : (2 * k + 1) * 2 ^ j ≤ (2 * k + 1 + 1) * 2 ^ j := Nat.mul_le_mul_right _ (by omega)
    refine ⟨fun hr => ⟨l + 1, j, by rw [hp]; congr 1; omega, by omega, by omega, hr, h4, h5⟩, fun hr => ⟨l + 1, j, by rw [hp]; congr 1; omega, by omega, by omega, ?_, by omega, fun q q1 q2 => ?_⟩⟩
    · have := ht.node k (by omega) hk
      omega
    · by_cases hq : (2 * k + 1 + 1) * 2 ^ j ≤ q
      · exact h5 q hq q2
      · have := Tree.under ht j (2 * k + 1) q (by omega) (by omega) q1 (by omega)
        omega

theorem Down.leaf {N : Nat → Int} {p to : Nat} {bd : Int} {k : Nat} (h : Down N p to bd k) (hk : p ≤ k) : bd ≤ N k ∧ k < p + to ∧ ∀ q, k < q → q < p + to → N q < bd := by
  obtain ⟨l, j, hp, h1, h2, h3, h4, h5⟩ := h.at_
  have hj : j = 0 := by
    match j, hp with
    | 0, _ => rfl
    | j + 1, hp =>
      rw [show l + (j + 1) = (l + 1) + j from by omega, two_pow_split] at hp
      have b := @Nat.one_le_two_pow j
      have c : 2 ^ (l + 1) * 1 ≤ 2 ^ (l + 1) * 2 ^ j := Nat.mul_le_mul_left _ b
      omega
  subst hj
  simp only [Nat.pow_zero, Nat.mul_one] at h4 h5
  exact ⟨h3, by omega, fun q q1 q2 => h5 q (by omega) q2⟩
end Go.Proofs.Qxb6609392a
