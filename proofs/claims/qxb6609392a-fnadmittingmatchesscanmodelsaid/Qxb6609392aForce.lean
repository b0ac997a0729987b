/-
  latestCallBefore, forcedBothWays.
-/
import Derived.Test.Qxb6609392aFun
namespace Go.Proofs.Qxb6609392a
open Go.RowKit

/-- The latest call of a write that returned before t. -/
def lcb (R L : Nat → Int) (t : Int) (n : Nat) : Int := if bs R t n = 0 then -9223372036854775808 else L (bs R t n - 1)

theorem latest_fn (g1 c1 g2 c2 n : Nat) (R L : Nat → Int) (t : Int) (w : World) (h1 : IntsF w g1 n R) (h2 : IntsF w g2 n L) (hn : n ≤ 100000) (hs : ∀ a b, a ≤ b → b < n → R a ≤ R b) :
    Calls Try.prog 34 #[.agg #[.slice (some ⟨g1, 0, none⟩) n c1, .slice (some ⟨g2, 0, none⟩) n c2], .int .i64 t] w fun e w' => e = .returned (.int .i64 (lcb R L t n)) ∧ Below w.heap.size w w' := by
  have hbn := (bs_spec R t n hs).1
  unfold lcb
  have hbs : ∀ w', IntsF w' g1 n R → Calls Try.prog 33 #[.slice (some ⟨g1, 0, none⟩) n c1, .int .i64 t] w' fun e w'' => e = .returned (.tuple #[.int .i64 (bs R t n), .bool (decide (bs R t n < n ∧ R (bs R t n) = t))]) ∧ w'' = w' := fun w' h => bsearch_fn g1 n c1 R t w' h hn hs
  generalize decide (bs R t n < n ∧ R (bs R t n) = t) = fb at *
  generalize bs R t n = B at *
  have HBS : Hid _ := hbs
  clear hbs
  by_cases hB : B = 0
  · subst hB
    rw [if_pos rfl]
    go_enter Try.func34, Try.ntmps34
    go_wp2_with fail
    refine (HBS.out _ (h1.keep (below1 w _))).mono ?_
    rintro e w' ⟨rfl, rfl⟩
    go_wp2_with fail
    go_returns
    exact ⟨rfl, below1 w _⟩
  · have hc := cell_alloc_any (h2 (B - 1) (by omega))
    have hne : ((B : Int) == 0) = false := by rw [beq_eq_false_iff_ne]; omega
    rw [if_neg hB]
    go_enter Try.func34, Try.ntmps34
    go_wp2_with fail
    refine (HBS.out _ (h1.keep (below1 w _))).mono ?_
    rintro e w' ⟨rfl, rfl⟩
    go_wp2_with fail
    go_returns
    exact ⟨rfl, below1 w _⟩

/-- What forcedBothWays goes by. -/
def forcedMax (R N : Nat → Int) (p n : Nat) (lc own : Int) : Int :=
  if 0 ≤ own ∧ own < bs R lc n then max (gre N p 0 own.toNat) (gre N p (own.toNat + 1) (bs R lc n)) else gre N p 0 (bs R lc n)

set_option maxHeartbeats 1000000 in
theorem forced_fn (g1 c1 gt ct n p : Nat) (R N : Nat → Int) (wc lc fr own : Int) (w : World) (h1 : IntsF w g1 n R) (h2 : IntsF w gt (2 * p) N) (ht : Tree p N) (hnp : n ≤ p) (hp : p ≤ 65536) (hs : ∀ a b, a ≤ b → b < n → R a ≤ R b) :
    Calls Try.prog 40 #[.agg #[.slice (some ⟨g1, 0, none⟩) n c1, .int .i64 p, .slice (some ⟨gt, 0, none⟩) (2 * p) ct], .agg #[.int .i64 wc, .int .i64 lc, .int .i64 fr], .int .i64 own] w fun e w' =>
      e = .returned (.bool (decide (fr < forcedMax R N p n lc own))) ∧ Below w.heap.size w w' := by
  have hbn := (bs_spec R lc n hs).1
  have HT : Hid _ := ht
  clear ht
  unfold forcedMax
  have hbs : ∀ w', IntsF w' g1 n R → Calls Try.prog 33 #[.slice (some ⟨g1, 0, none⟩) n c1, .int .i64 lc] w' fun e w'' => e = .returned (.tuple #[.int .i64 (bs R lc n), .bool (decide (bs R lc n < n ∧ R (bs R lc n) = lc))]) ∧ w'' = w' := fun w' h => bsearch_fn g1 n c1 R lc w' h (by omega) hs
  generalize decide (bs R lc n < n ∧ R (bs R lc n) = lc) = fb at *
  generalize bs R lc n = B at *
  have HBS : Hid _ := hbs
  clear hbs
  by_cases ho : 0 ≤ own ∧ own < B
  · rw [if_pos ho]
    obtain ⟨o, rfl⟩ : ∃ o : Nat, own = o := ⟨own.toNat, by omega⟩
    obtain ⟨ho1, ho2⟩ := ho
    rw [show ((o : Int)).toNat = o from rfl]
    have hoB : o < B := by omega
    clear ho1 ho2
    go_enter Try.func40, Try.ntmps40
    go_wp2_with fail
    refine (HBS.out _ (h1.keep (below2 w _ _))).mono ?_
    rintro e w' ⟨rfl, rfl⟩
    go_wp2_with fail
    refine (greatest_fn gt p ct 0 B N _ (h2.keep (below2 w _ _)) HT.out hp (by omega) (by omega)).mono ?_
    rintro e w1 ⟨rfl, B1⟩
    have bx0 : w1.cell? ⟨w.heap.size, 1, none⟩ = some (.int .i64 p) := cell_keep B1 (by simp [go_sem])
    have bx1 : w1.cell? ⟨w.heap.size, 2, none⟩ = some (.slice (some ⟨gt, 0, none⟩) (2 * p) ct) := cell_keep B1 (by simp [go_sem])
    have bx2 : w1.cell? ⟨w.heap.size + 1, 2, none⟩ = some (.int .i64 fr) := cell_keep B1 (by simp [go_sem])
    have B2 := below_trans (below2 w _ _) B1
    have h3 := h2.keep B2
    clear B1
    go_wp2_with fail
    have hne : Nonempty (BW w1) := ⟨⟨w1, Below.refl _ _⟩⟩
    have cx0 := BW.cell bx0
    have cx1 := BW.cell bx1
    refine region_bw (by kernel_rfl) (by kernel_rfl) ?_
    have k1 : ∀ m : BW w1, Calls Try.prog 42 #[.agg #[.int .i64 p, .slice (some ⟨gt, 0, none⟩) (2 * p) ct], .int .i64 0, .int .i64 o] m.W fun e w'' => e = .returned (.int .i64 (gre N p 0 o)) ∧ ∃ m : BW w1, w'' = m.W := fun m => Calls.bw (greatest_fn gt p ct 0 o N _ (h3.keep m.ok) HT.out hp (by omega) (by omega))
    have k2 : ∀ m : BW w1, Calls Try.prog 42 #[.agg #[.int .i64 p, .slice (some ⟨gt, 0, none⟩) (2 * p) ct], .int .i64 ((o : Int) + 1), .int .i64 B] m.W fun e w'' => e = .returned (.int .i64 (gre N p (o + 1) B)) ∧ ∃ m : BW w1, w'' = m.W := fun m => Calls.bw (greatest_fn gt p ct (o + 1) B N _ (h3.keep m.ok) HT.out hp (by omega) (by omega))
    have K1 : Hid _ := k1
    have K2 : Hid _ := k2
    clear k1 k2
    repeat (go_big_quiet_step (first | (with_reducible exact K1.out _) | (with_reducible exact K2.out _)))
    refine wpQuiet_nil ?_
    rintro w9 ⟨⟨W9, B9⟩, rfl⟩
    have dx2 := cell_keep B9 bx2
    have B3 := below_trans B2 B9
    by_cases hm : gre N p 0 o < gre N p (o + 1) B
    · go_wp2_with fail
      go_returns
      exact ⟨by rw [show max (gre N p 0 o) (gre N p (o + 1) B) = gre N p (o + 1) B from by omega]; rfl, B3⟩
    · go_wp2_with fail
      go_returns
      exact ⟨by rw [show max (gre N p 0 o) (gre N p (o + 1) B) = gre N p 0 o from by omega]; rfl, B3⟩
  · rw [if_neg ho]
    by_cases ho1 : 0 ≤ own
    · have ho2 : ¬ own < B := by omega
      clear ho
      go_enter Try.func40, Try.ntmps40
      go_wp2_with fail
      refine (HBS.out _ (h1.keep (below2 w _ _))).mono ?_
      rintro e w' ⟨rfl, rfl⟩
      go_wp2_with fail
      refine (greatest_fn gt p ct 0 B N _ (h2.keep (below2 w _ _)) HT.out hp (by omega) (by omega)).mono ?_
      rintro e w1 ⟨rfl, B1⟩
      have bx2 : w1.cell? ⟨w.heap.size + 1, 2, none⟩ = some (.int .i64 fr) := cell_keep B1 (by simp [go_sem])
      have B2 := below_trans (below2 w _ _) B1
      clear B1
      go_wp2_with fail
      go_returns
      exact ⟨rfl, B2⟩
    · clear ho
      go_enter Try.func40, Try.ntmps40
      go_wp2_with fail
      refine (HBS.out _ (h1.keep (below2 w _ _))).mono ?_
      rintro e w' ⟨rfl, rfl⟩
      go_wp2_with fail
      refine (greatest_fn gt p ct 0 B N _ (h2.keep (below2 w _ _)) HT.out hp (by omega) (by omega)).mono ?_
      rintro e w1 ⟨rfl, B1⟩
      have bx2 : w1.cell? ⟨w.heap.size + 1, 2, none⟩ = some (.int .i64 fr) := cell_keep B1 (by simp [go_sem])
      have B2 := below_trans (below2 w _ _) B1
      clear B1
      go_wp2_with fail
      go_returns
      exact ⟨rfl, B2⟩
end Go.Proofs.Qxb6609392a
