/-
  The law over the scan model: its walk.
-/
import Derived.Test.Qxb6609392aModS
import Derived.Test.Qxb6609392aModX
import Derived.Test.Qxb6609392aRun
namespace Go.Proofs.Qxb6609392a
open Go.RowKit

set_option maxRecDepth 100000 in
set_option maxHeartbeats 8000000 in
theorem match_fn (ao ae : Option Addr) (n cap m cape : Nat) (X : Nat → Wr) (E : Nat → Int) (nv steps rv rc rr sl : Int) (w : World) (hX : SrcX w ao n X) (hE : SrcI w ae m E) (hln : n ≤ maxLen) (hlm : m ≤ maxLen) (hwf : ∀ i, i < n → (Lit.int .i64 (X i).v).wf = true)
    (hb : ∀ i, i < n → -9223372036854775808 ≤ (X i).c ∧ -9223372036854775808 ≤ (X i).r ∧ -9223372036854775808 ≤ (X i).rr) (hwv : (Lit.int .i64 rv).wf = true) (hrr : -9223372036854775808 ≤ rr) (hsb : steps ≤ 9223372036854775807) :
    Calls Try.prog 3 #[.slice ao n cap, .slice ae m cape, .int .i64 nv, .int .i64 steps, .int .i64 rv, .int .i64 rc, .int .i64 rr, .int .i64 sl] w fun e w' => e = .returned (.bool true) ∧ Below w.heap.size w w' := by
  have hm : maxLen ≤ 9223372036854775807 := by unfold maxLen; omega
  by_cases h1 : n + m ≤ 1048576
  case neg =>
    have hd : decide (n + m ≤ 1048576) = false := by simpa using h1
    go_enter Try.func3, Try.ntmps3
    go_wp2_with (go_at_call 5; refine (bytes5_fn _ _ _ _ _ _ _ _ _ _ _ _ _ hln hlm).mono ?_; rintro e w' ⟨rfl, hw1⟩; have hw2 := hw1.symm; subst hw2)
    go_returns
    exact ⟨rfl, Below.refl _ _⟩
  case pos =>
  have hd : decide (n + m ≤ 1048576) = true := by simpa using h1
  by_cases h2 : n * 56 + m * 8 ≤ 1048576
  case neg =>
    go_enter Try.func3, Try.ntmps3
    go_wp2_with (go_at_call 5; refine (bytes5_fn _ _ _ _ _ _ _ _ _ _ _ _ _ hln hlm).mono ?_; rintro e w' ⟨rfl, hw1⟩; have hw2 := hw1.symm; subst hw2)
    go_returns
    exact ⟨rfl, Below.refl _ _⟩
  case pos =>
  by_cases h3 : n ≤ 4096
  case neg =>
    go_enter Try.func3, Try.ntmps3
    go_wp2_with (go_at_call 5; refine (bytes5_fn _ _ _ _ _ _ _ _ _ _ _ _ _ hln hlm).mono ?_; rintro e w' ⟨rfl, hw1⟩; have hw2 := hw1.symm; subst hw2)
    go_returns
    exact ⟨rfl, Below.refl _ _⟩
  case pos =>
  by_cases h4 : m ≤ 4096
  case neg =>
    go_enter Try.func3, Try.ntmps3
    go_wp2_with (go_at_call 5; refine (bytes5_fn _ _ _ _ _ _ _ _ _ _ _ _ _ hln hlm).mono ?_; rintro e w' ⟨rfl, hw1⟩; have hw2 := hw1.symm; subst hw2)
    go_returns
    exact ⟨rfl, Below.refl _ _⟩
  case pos =>
  go_enter Try.func3, Try.ntmps3
  go_wp2_with (go_at_call 5; refine (bytes5_fn _ _ _ _ _ _ _ _ _ _ _ _ _ hln hlm).mono ?_; rintro e w' ⟨rfl, hw1⟩; have hw2 := hw1.symm; subst hw2)
  refine (sorted6_fn ao n cap X _ hX h3).mono ?_
  rintro e W1 ⟨z, rfl, hz, B1⟩
  have HB1 : Hid (Below w.heap.size w W1) := B1
  clear B1
  cases z with
  | false =>
    go_wp2_with fail
    go_returns
    exact ⟨rfl, HB1.out⟩
  | true =>
    have hst := xsteps_le (hz rfl)
    have HST : Hid _ := hst
    clear hz hst
    go_wp2_with fail
    refine (run_fn ao ae n m cap cape X E nv steps rv rc rr sl _ (hX.keep HB1.out) (hE.keep HB1.out) h3 h4 hwf (fun a b q1 q2 => (HST.out a b q1 q2).1) (fun a b q1 q2 => (HST.out a b q1 q2).2) hwv hsb).mono ?_
    rintro e W2 ⟨D, T, hDn, hDv, lay, ok, sp, lc, rfl, B2⟩
    have HB2 : Hid (Below w.heap.size w W2) := HB1.out.trans (B2.mono HB1.out.size)
    obtain ⟨tk, htk⟩ : ∃ tk : Nat → Bool, ∀ i, tk i = true ↔ TakesM n X nv rc rr i := ⟨fun i => @decide _ (Classical.propDecidable (TakesM n X nv rc rr i)), fun i => by simp⟩
    have HEQ : Hid (∀ (fr ca : Nat) (fd : Bool) (ov : Int), FC n X rv rr fr ca fd → LcbS n X rc ov → admitF D rc rr (choicesF D T rv rc rr) steps = admL tk (seqM X fr ca ov rc) (mrgM X fr ca rc) (idlM X fr) steps) := fun fr ca fd ov fc hov =>
      two_one hDn hDv lay ok sp lc (fun a b q1 q2 => (HST.out a b q1 q2).2) hb hrr (fun i _ => htk i) fc hov
    have HTK : Hid (∀ i, tk i = true ↔ TakesM n X nv rc rr i) := htk
    clear htk lay ok sp lc hDn hDv B2 HB1 HST
    generalize admitF D rc rr (choicesF D T rv rc rr) steps = A at *
    clear D T
    go_wp2_with fail
    refine (model8_fn ao n cap X nv steps rv rc rr tk _ (hX.keep HB2.out) h3 hsb (fun i _ => HTK.out i)).mono ?_
    rintro e W3 ⟨fr, ca, fd, ov, fc, hov, rfl, B3⟩
    rw [← HEQ.out fr ca fd ov fc hov]
    have HB3 : Hid (Below w.heap.size w W3) := HB2.out.trans (B3.mono HB2.out.size)
    clear B3 fc hov
    go_wp2_with fail
    go_returns
    exact ⟨rfl, HB3.out⟩
end Go.Proofs.Qxb6609392a
