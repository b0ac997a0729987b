/-
  sort.Search with the closure of choicesOf.
-/
import Derived.Test.Qxb6609392aOffer
namespace Go.Proofs.Qxb6609392a
open Go.RowKit

set_option maxHeartbeats 2000000 in
theorem closure_fn (A ba bs' br : Nat) (D : AD) (fr k : Nat) (rr : Int) (w : World) (h : Asg w A D) (hk : fr + k < D.n) (hn : D.n ≤ 4096)
    (c1 : w.cell? ⟨ba, 0, none⟩ = some (.pointer (some ⟨A, 0, none⟩))) (c2 : w.cell? ⟨bs', 0, none⟩ = some (.int .i64 fr)) (c3 : w.cell? ⟨br, 3, none⟩ = some (.int .i64 rr)) :
    Calls Try.prog 32 #[.int .i64 k, .pointer (some ⟨ba, 0, none⟩), .pointer (some ⟨bs', 0, none⟩), .pointer (some ⟨br, 0, none⟩)] w fun e w' => e = .returned (.bool (decide (rr < D.call (fr + k)))) ∧ Below w.heap.size w w' := by
  have n1 : Nonempty (BW w) := ⟨⟨w, Below.refl _ _⟩⟩
  have x1 := BW.cell c1
  have x2 := BW.cell c2
  have x3 := BW.cell c3
  have y0 := BW.cell h.c0
  have y2 := BW.cell (h.w2 (fr + k) hk)
  have i1 : (0 : Int) ≤ (fr : Int) + (k : Int) := by omega
  have i2 : (fr : Int) + (k : Int) < (D.n : Int) := by omega
  clear h c1 c2 c3
  go_enter Try.func32, Try.ntmps32
  go_wp2_with fail
  refine region_bw (by kernel_rfl) (by kernel_rfl) ?_
  repeat (go_big_quiet_step (fail))
  refine wpQuiet_nil ?_
  rintro W2 ⟨⟨_, B2⟩, rfl⟩
  go_wp2_with fail
  go_returns
  exact ⟨rfl, B2⟩

set_option maxHeartbeats 2000000 in
theorem search_fn (A ba bs' br : Nat) (D : AD) (fr n : Nat) (rr : Int) (w : World) (h : Asg w A D) (hk : fr + n ≤ D.n) (hn : D.n ≤ 4096) (hs : ∀ a b, a ≤ b → b < n → D.call (fr + a) ≤ D.call (fr + b))
    (c1 : w.cell? ⟨ba, 0, none⟩ = some (.pointer (some ⟨A, 0, none⟩))) (c2 : w.cell? ⟨bs', 0, none⟩ = some (.int .i64 fr)) (c3 : w.cell? ⟨br, 3, none⟩ = some (.int .i64 rr)) :
    Calls Try.prog 31 #[.int .i64 n, .func (.func 32) #[] #[.pointer (some ⟨ba, 0, none⟩), .pointer (some ⟨bs', 0, none⟩), .pointer (some ⟨br, 0, none⟩)]] w fun e w' => e = .returned (.int .i64 (bs (fun k => D.call (fr + k)) (rr + 1) n)) ∧ Below w.heap.size w w' := by
  have hsp := bs_spec (fun k => D.call (fr + k)) (rr + 1) n hs
  have HU : Hid (∀ a, a ≤ n → (∀ k, k < a → D.call (fr + k) ≤ rr) → (∀ k, a ≤ k → k < n → rr < D.call (fr + k)) → a = bs (fun k => D.call (fr + k)) (rr + 1) n) := fun a h0 h1 h2 => by
    generalize bs (fun k => D.call (fr + k)) (rr + 1) n = B at *
    by_cases c : a < B
    · have h5 : D.call (fr + a) < rr + 1 := hsp.2.1 a c; have := h2 a (Nat.le_refl _) (by omega); omega
    · by_cases c : B < a
      · have := h1 _ c; have h5 : rr + 1 ≤ D.call (fr + B) := hsp.2.2 _ (Nat.le_refl _) (by omega); omega
      · omega
  clear hsp
  generalize bs (fun k => D.call (fr + k)) (rr + 1) n = B at *
  go_enter Try.func31, Try.ntmps31
  go_wp2_with fail
  go_loopw [5, 6] (fun i j wr => ∃ a b : Nat, a ≤ b ∧ b ≤ n ∧ i = .int .i64 a ∧ j = .int .i64 b ∧ (∀ k, k < a → D.call (fr + k) ≤ rr) ∧ (∀ k, b ≤ k → k < n → rr < D.call (fr + k)) ∧ Below w.heap.size w wr) (fun i j _ => ((intOf j) - (intOf i)).toNat)
  case atStart => exact ⟨0, n, Nat.zero_le _, Nat.le_refl _, rfl, rfl, fun k hk => by omega, fun k hk hk2 => by omega, Below.refl _ _⟩
  case round =>
    obtain ⟨a, b, hab, hbn, rfl, rfl, hlo, hhi, hB⟩ := hrel
    have HLO : Hid _ := hlo
    have HHI : Hid _ := hhi
    have HS : Hid _ := hs
    clear hlo hhi
    by_cases hlt : a < b
    · go_wp2_with fail
      have hc := closure_fn A ba bs' br D fr ((a + b) / 2) rr wr (h.keep hB) (by omega) hn (cell_keep hB c1) (cell_keep hB c2) (cell_keep hB c3)
      rw [show (((a + b) / 2 : Nat) : Int) = ((a : Int) + b) / 2 from by omega] at hc
      refine hc.mono ?_
      clear hc
      rintro e W2 ⟨rfl, B2⟩
      have hB2 := below_trans hB B2
      by_cases hcmp : rr < D.call (fr + (a + b) / 2)
      · go_wp2_with fail
        exact ⟨⟨a, (a + b) / 2, by omega, by omega, rfl, by go_num, HLO.out, fun k hk hk2 => by have := HS.out ((a + b) / 2) k (by omega) (by omega); omega, hB2⟩, by simp [intOf]; omega⟩
      · have hdf : decide (rr < D.call (fr + (a + b) / 2)) = false := by simpa using hcmp
        go_wp2_with fail
        exact ⟨⟨(a + b) / 2 + 1, b, by omega, hbn, by go_num, rfl, fun k hk => by have := HS.out k ((a + b) / 2) (by omega) (by omega); omega, HHI.out, hB2⟩, by simp [intOf]; omega⟩
    · obtain rfl : a = b := by omega
      have haB := HU.out a hbn HLO.out HHI.out
      subst haB
      go_wp2_with fail
      go_returns
      exact ⟨rfl, hB⟩
end Go.Proofs.Qxb6609392a
