/-
  The searching functions with their answers as plain functions; a region that draws, holds calls that make memory, and writes nothing old.
-/
import Derived.Test.Qxb6609392aLast
namespace Go.Proofs.Qxb6609392a
open Go.RowKit

/-- A world in which all that w has stands. -/
structure BW (w : World) where
  W : World
  ok : Below w.heap.size w W

/-- A region that draws its order: each operation only reads; a callee may make memory. -/
theorem region_bw {P : Program} {id : Nat} {Q : Exit → Act → World → Prop} {a : Act} {w : World} {l : List Oper} (hm : P.follows .mixedOrders = true) (hB : Region.lexB .any l.toArray = true)
    (h : wpQuiet P l.toArray (fun w' => ∃ n : BW w, w' = n.W) (fun a' => ∀ w', (∃ n : BW w, w' = n.W) → Q .normal a' w') l a) : (Code.region id l.toArray true).wp P Q a w :=
  wp_region_quiet (C := fun w' => ∃ n : BW w, w' = n.W) hm hB ⟨⟨_, (Below.refl _ w).drew⟩, rfl⟩ (by simpa using h)

theorem BW.cell {w : World} {p : Addr} {v : Value} (h : w.cell? p = some v) (n : BW w) : n.W.cell? p = some v := cell_keep n.ok h
theorem IntsF.bw {w : World} {g n : Nat} {N : Nat → Int} (h : IntsF w g n N) (m : BW w) : IntsF m.W g n N := h.keep m.ok

/-- A callee's contract, met in a world of the class. -/
theorem Calls.bw {P : Program} {f : FuncId} {args : Array Value} {w : World} {n : BW w} {v : Value}
    (h : Calls P f args n.W fun e w' => e = .returned v ∧ Below n.W.heap.size n.W w') : Calls P f args n.W fun e w'' => e = .returned v ∧ ∃ m : BW w, w'' = m.W :=
  h.mono fun _ w' ⟨he, hb⟩ => ⟨he, ⟨w', below_trans n.ok hb⟩, rfl⟩

/-- The greatest number of [fr, to). -/
def gre (N : Nat → Int) (p fr : Nat) : Nat → Int
  | 0 => -9223372036854775808
  | n + 1 => if fr ≤ n then max (gre N p fr n) (N (p + n)) else gre N p fr n
theorem gre_spec (N : Nat → Int) (p fr : Nat) : ∀ to x, x < gre N p fr to ↔ (x < -9223372036854775808 ∨ ∃ i, fr ≤ i ∧ i < to ∧ x < N (p + i))
  | 0, x => by simp [gre]
  | n + 1, x => by
    have ih := gre_spec N p fr n x
    unfold gre
    split
    · rename_i hf
      constructor
      · intro h
        by_cases h1 : x < gre N p fr n
        · rcases ih.1 h1 with h | ⟨i, i1, i2, i3⟩
          · exact .inl h
          · exact .inr ⟨i, i1, by omega, i3⟩
        · exact .inr ⟨n, hf, by omega, by omega⟩
      · rintro (h | ⟨i, i1, i2, i3⟩)
        · have := ih.2 (.inl h); omega
        · by_cases e : i = n
          · subst e; omega
          · have := ih.2 (.inr ⟨i, i1, by omega, i3⟩); omega
    · rename_i hf
      rw [ih]
      constructor
      · rintro (h | ⟨i, i1, i2, i3⟩)
        · exact .inl h
        · exact .inr ⟨i, i1, by omega, i3⟩
      · rintro (h | ⟨i, i1, i2, i3⟩)
        · exact .inl h
        · exact .inr ⟨i, i1, by omega, i3⟩

theorem greatest_fn (g p cap fr to : Nat) (N : Nat → Int) (w : World) (h : IntsF w g (2 * p) N) (ht : Tree p N) (hp : p ≤ 65536) (hto : to ≤ p) (hfr : fr ≤ p) :
    Calls Try.prog 42 #[.agg #[.int .i64 p, .slice (some ⟨g, 0, none⟩) (2 * p) cap], .int .i64 fr, .int .i64 to] w fun e w' => e = .returned (.int .i64 (gre N p fr to)) ∧ Below w.heap.size w w' := by
  refine (greatest_any g p cap fr to N w h ht hp hto hfr).mono ?_
  rintro e w' ⟨⟨G, rfl, hG⟩, hb⟩
  have e : G = gre N p fr to := by
    have h1 := (hG (gre N p fr to)).trans (gre_spec N p fr to _).symm
    have h2 := (hG G).trans (gre_spec N p fr to _).symm
    omega
  rw [e]
  exact ⟨rfl, hb⟩

/-- The last number of [fr, to) that is no less than bd. -/
def lst (N : Nat → Int) (p fr : Nat) (bd : Int) : Nat → Int
  | 0 => -1
  | n + 1 => if fr ≤ n ∧ bd ≤ N (p + n) then n else lst N p fr bd n
theorem lst_spec (N : Nat → Int) (p fr : Nat) (bd : Int) : ∀ to, LastOk N p fr to bd (lst N p fr bd to)
  | 0 => .inl ⟨rfl, fun i _ h => by omega⟩
  | n + 1 => by
    unfold lst
    split
    · rename_i h
      exact .inr ⟨n, rfl, h.1, by omega, h.2, fun j j1 j2 => by omega⟩
    · rename_i h
      have hh : ∀ j, fr ≤ j → j = n → N (p + j) < bd := fun j h1 h2 => by subst h2; exact Int.not_le.1 fun h3 => h ⟨h1, h3⟩
      rcases lst_spec N p fr bd n with ⟨e, h1⟩ | ⟨i, e, h1, h2, h3, h4⟩
      · refine .inl ⟨e, fun i i1 i2 => ?_⟩
        by_cases hi : i = n
        · exact hh i i1 hi
        · exact h1 i i1 (by omega)
      · refine .inr ⟨i, e, h1, by omega, h3, fun j j1 j2 => ?_⟩
        by_cases hj : j = n
        · exact hh j (by omega) hj
        · exact h4 j j1 (by omega)
theorem LastOk.unique {N : Nat → Int} {p fr to : Nat} {bd r r' : Int} (h : LastOk N p fr to bd r) (h' : LastOk N p fr to bd r') : r = r' := by
  rcases h with ⟨e, h1⟩ | ⟨i, e, h1, h2, h3, h4⟩ <;> rcases h' with ⟨e', h1'⟩ | ⟨i', e', h1', h2', h3', h4'⟩
  · omega
  · have := h1 i' h1' h2'; omega
  · have := h1' i h1 h2; omega
  · by_cases a : i < i'
    · have := h4 i' a h2'; omega
    · by_cases b : i' < i
      · have := h4' i b h2; omega
      · omega

theorem last_fn (g p cap fr to : Nat) (N : Nat → Int) (bd : Int) (w : World) (h : IntsF w g (2 * p) N) (ht : Tree p N) (hp : p ≤ 65536) (hto : to ≤ p) (hfr : fr ≤ 65536) :
    Calls Try.prog 30 #[.agg #[.int .i64 p, .slice (some ⟨g, 0, none⟩) (2 * p) cap], .int .i64 fr, .int .i64 to, .int .i64 bd] w fun e w' => e = .returned (.int .i64 (lst N p fr bd to)) ∧ Below w.heap.size w w' := by
  refine (last_any g p cap fr to N bd w h ht hp hto hfr).mono ?_
  rintro e w' ⟨⟨r, rfl, hr⟩, hb⟩
  rw [hr.unique (lst_spec N p fr bd to)]
  exact ⟨rfl, hb⟩

/-- How many of the first n numbers (they ascend) lie below t. -/
def bs (N : Nat → Int) (t : Int) : Nat → Nat
  | 0 => 0
  | n + 1 => if N n < t then n + 1 else bs N t n
theorem bs_spec (N : Nat → Int) (t : Int) : ∀ n, (∀ a b, a ≤ b → b < n → N a ≤ N b) → bs N t n ≤ n ∧ (∀ k, k < bs N t n → N k < t) ∧ ∀ k, bs N t n ≤ k → k < n → t ≤ N k
  | 0, _ => ⟨Nat.le_refl _, fun k hk => by simp [bs] at hk, fun k _ hk => by omega⟩
  | n + 1, hs => by
    have ih := bs_spec N t n fun a b h1 h2 => hs a b h1 (by omega)
    unfold bs
    split
    · rename_i h
      exact ⟨Nat.le_refl _, fun k hk => by have := hs k n (by omega) (by omega); omega, fun k h1 h2 => by omega⟩
    · rename_i h
      refine ⟨by omega, ih.2.1, fun k h1 h2 => ?_⟩
      by_cases e : k = n
      · subst e; omega
      · exact ih.2.2 k h1 (by omega)

set_option maxHeartbeats 1000000 in
theorem bsearch_fn (g n cap : Nat) (N : Nat → Int) (t : Int) (w : World) (h : IntsF w g n N) (hn : n ≤ 100000) (hs : ∀ a b, a ≤ b → b < n → N a ≤ N b) :
    Calls Try.prog 33 #[.slice (some ⟨g, 0, none⟩) n cap, .int .i64 t] w fun e w' => e = .returned (.tuple #[.int .i64 (bs N t n), .bool (decide (bs N t n < n ∧ N (bs N t n) = t))]) ∧ w' = w := by
  have hsp := bs_spec N t n hs
  have HU : Hid (∀ a, a ≤ n → (∀ k, k < a → N k < t) → (∀ k, a ≤ k → k < n → t ≤ N k) → a = bs N t n) := fun a h0 h1 h2 => by
    by_cases c : a < bs N t n
    · have := hsp.2.1 a c; have := h2 a (Nat.le_refl _) (by omega); omega
    · by_cases c : bs N t n < a
      · have := h1 _ c; have := hsp.2.2 _ (Nat.le_refl _) (by omega); omega
      · omega
  clear hsp
  generalize bs N t n = B at *
  go_enter Try.func33, Try.ntmps33
  go_wp2
  go_loopw [7, 8] (fun i j wr => ∃ a b : Nat, a ≤ b ∧ b ≤ n ∧ i = .int .i64 a ∧ j = .int .i64 b ∧ (∀ k, k < a → N k < t) ∧ (∀ k, b ≤ k → k < n → t ≤ N k) ∧ wr = w) (fun i j _ => ((intOf j) - (intOf i)).toNat)
  case atStart => exact ⟨0, n, Nat.zero_le _, Nat.le_refl _, rfl, rfl, fun k hk => by omega, fun k hk hk2 => by omega, rfl⟩
  case round =>
    obtain ⟨a, b, hab, hbn, rfl, rfl, hlo, hhi, rfl⟩ := hrel
    have HLO : Hid _ := hlo
    have HHI : Hid _ := hhi
    have HS : Hid _ := hs
    clear hlo hhi
    by_cases hlt : a < b
    · have hc := h ((a + b) / 2) (by omega)
      by_cases hcmp : N ((a + b) / 2) < t
      · go_wp2
        exact ⟨⟨(a + b) / 2 + 1, b, by omega, hbn, by go_num, rfl, fun k hk => by have := HS.out k ((a + b) / 2) (by omega) (by omega); omega, HHI.out, trivial⟩, by simp [intOf]; omega⟩
      · go_wp2
        exact ⟨⟨a, (a + b) / 2, by omega, by omega, rfl, by go_num, HLO.out, fun k hk hk2 => by have := HS.out ((a + b) / 2) k (by omega) (by omega); omega, trivial⟩, by simp [intOf]; omega⟩
    · obtain rfl : a = b := by omega
      have haB := HU.out a hbn HLO.out HHI.out
      subst haB
      by_cases hl : a < n
      · have hc := h a hl
        by_cases he : N a = t
        · go_wp2
          go_returns
          exact ⟨by simp [hl, he], rfl⟩
        · have he2 : (N a == t) = false := by rw [beq_eq_false_iff_ne]; exact he
          go_wp2
          go_returns
          exact ⟨by simp [he], rfl⟩
      · go_wp2
        go_returns
        exact ⟨by simp [hl], rfl⟩
end Go.Proofs.Qxb6609392a
