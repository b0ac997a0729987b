/-
  The small functions of the law over the scan model; what its two answers have in common.
-/
import Derived.Test.Qxb6609392aModQ
import Derived.Test.Qxb6609392aRunA
namespace Go.Proofs.Qxb6609392a
open Go.RowKit

theorem bytes5_fn (a a' : Option Addr) (n cap m cap' : Nat) (x2 x3 x4 x5 x6 x7 : Value) (w : World) (_hn : n ≤ maxLen) (_hm : m ≤ maxLen) : Calls Try.prog 5 #[.slice a n cap, .slice a' m cap', x2, x3, x4, x5, x6, x7] w fun e w' => e = .returned (.bool (decide (n + m ≤ 1048576))) ∧ w' = w := by
  have hx : maxLen ≤ 9223372036854775807 := by unfold maxLen; omega
  by_cases h1 : n ≤ 1048576
  case neg =>
    have hd : decide (n + m ≤ 1048576) = false := by simp; omega
    rw [hd]
    clear hd
    go_enter Try.func5, Try.ntmps5
    go_wp2
    go_returns
    exact ⟨rfl, rfl⟩
  case pos =>
  by_cases h2 : m ≤ 1048576
  case neg =>
    have hd : decide (n + m ≤ 1048576) = false := by simp; omega
    rw [hd]
    clear hd
    go_enter Try.func5, Try.ntmps5
    go_wp2
    go_returns
    exact ⟨rfl, rfl⟩
  case pos =>
  by_cases h3 : n + m ≤ 1048576
  · have hd : decide (n + m ≤ 1048576) = true := by simpa using h3
    rw [hd]
    clear hd
    go_enter Try.func5, Try.ntmps5
    go_wp2
    go_returns
    exact ⟨rfl, rfl⟩
  · have hd : decide (n + m ≤ 1048576) = false := by simpa using h3
    rw [hd]
    clear hd
    go_enter Try.func5, Try.ntmps5
    go_wp2
    go_returns
    exact ⟨rfl, rfl⟩

def XStep (X : Nat → Wr) (i : Nat) : Prop := (X (i - 1)).v ≤ (X i).v ∧ ((X (i - 1)).v = (X i).v → (X (i - 1)).c ≤ (X i).c)

set_option maxHeartbeats 2000000 in
theorem sorted6_fn (ao : Option Addr) (n cap : Nat) (X : Nat → Wr) (w : World) (hX : SrcX w ao n X) (hn : n ≤ 4096) :
    Calls Try.prog 6 #[.slice ao n cap] w fun e w' => ∃ z : Bool, e = .returned (.bool z) ∧ (z = true → ∀ i, 1 ≤ i → i < n → XStep X i) ∧ Below w.heap.size w w' := by
  go_enter Try.func6, Try.ntmps6
  go_wp2_with fail
  go_loopw [3] (fun vi wr => ∃ i : Nat, vi = .int .i64 i ∧ 1 ≤ i ∧ (∀ j, 1 ≤ j → j < i → j < n → XStep X j) ∧ Below w.heap.size w wr) (fun vi _ => n - (intOf vi).toNat)
  case atStart => exact ⟨1, rfl, Nat.le_refl _, fun j h1 h2 => by omega, Below.refl _ _⟩
  case round =>
    obtain ⟨i, rfl, hi1, hst, bel⟩ := hrel
    have HST : Hid _ := hst
    have HB : Hid _ := bel
    clear hst bel
    by_cases hi : i < n
    · obtain ⟨b, o, hao, -⟩ := hX.resolve_left (by omega)
      subst hao
      have p0 := (hX.keep HB.out).v (i - 1) (by omega)
      have p1 := (hX.keep HB.out).c (i - 1) (by omega)
      have q0 := (hX.keep HB.out).v i hi
      have q1 := (hX.keep HB.out).c i hi
      have i1 : (0 : Int) ≤ (i : Int) - 1 := by omega
      have i2 : (i : Int) - 1 < (n : Int) := by omega
      have i3 : (i : Int) < (n : Int) := by omega
      by_cases h1 : (X i).v < (X (i - 1)).v
      · have h1b : decide ((X i).v < (X (i - 1)).v) = true := by simpa using h1
        go_wp2_with fail
        go_quiet (fail)
        go_wp2_with fail
        go_returns
        exact ⟨false, rfl, (fun h => by cases h), belowN HB.out _⟩
      · have h1b : decide ((X i).v < (X (i - 1)).v) = false := by simpa using h1
        by_cases h2 : (X (i - 1)).v = (X i).v
        · have h2b : ((X (i - 1)).v == (X i).v) = true := by simp [h2]
          have H2 : Hid _ := h2
          clear h2
          by_cases h3 : (X i).c < (X (i - 1)).c
          · have h3b : decide ((X i).c < (X (i - 1)).c) = true := by simpa using h3
            go_wp2_with fail
            go_quiet (fail)
            go_wp2_with fail
            go_quiet (fail)
            go_wp2_with fail
            go_returns
            exact ⟨false, rfl, (fun h => by cases h), belowN (belowN HB.out _) _⟩
          · have h3b : decide ((X i).c < (X (i - 1)).c) = false := by simpa using h3
            have HS : Hid (XStep X i) := ⟨by omega, fun _ => by omega⟩
            go_wp2_with fail
            go_quiet (fail)
            go_wp2_with fail
            go_quiet (fail)
            go_wp2_with fail
            exact ⟨⟨i + 1, by go_num, by omega, fun j a1 a2 a3 => by
              by_cases e : j = i
              · subst e; exact HS.out
              · exact HST.out j a1 (by omega) a3, belowN HB.out _⟩, by simp [intOf]; omega⟩
        · have h2b : ((X (i - 1)).v == (X i).v) = false := by rw [beq_eq_false_iff_ne]; exact h2
          have HS : Hid (XStep X i) := ⟨by omega, fun e => absurd e h2⟩
          clear h2
          go_wp2_with fail
          go_quiet (fail)
          go_wp2_with fail
          go_quiet (fail)
          go_wp2_with fail
          exact ⟨⟨i + 1, by go_num, by omega, fun j a1 a2 a3 => by
            by_cases e : j = i
            · subst e; exact HS.out
            · exact HST.out j a1 (by omega) a3, belowN HB.out _⟩, by simp [intOf]; omega⟩
    · go_wp2_with fail
      go_returns
      exact ⟨true, rfl, fun _ j a1 a2 => HST.out j a1 (by omega) a2, HB.out⟩

theorem xsteps_le {X : Nat → Wr} {n : Nat} (h : ∀ i, 1 ≤ i → i < n → XStep X i) : ∀ a b, a ≤ b → b < n → (X a).v ≤ (X b).v ∧ ((X a).v = (X b).v → (X a).c ≤ (X b).c) := by
  intro a b hab
  induction b with
  | zero =>
    intro hb
    obtain rfl : a = 0 := by omega
    exact ⟨Int.le_refl _, fun _ => Int.le_refl _⟩
  | succ b ih =>
    intro hb
    by_cases e : a = b + 1
    · subst e; exact ⟨Int.le_refl _, fun _ => Int.le_refl _⟩
    · obtain ⟨h1, h2⟩ := ih (by omega) (by omega)
      obtain ⟨h3, h4⟩ := h (b + 1) (by omega) hb
      rw [show b + 1 - 1 = b from by omega] at h3 h4
      exact ⟨by omega, fun e => Int.le_trans (h2 (by omega)) (h4 (by omega))⟩

theorem bs_congr {f g : Nat → Int} {t : Int} {n : Nat} (hf : ∀ a b, a ≤ b → b < n → f a ≤ f b) (h : ∀ k, k < n → f k = g k) : bs f t n = bs g t n := by
  have hg : ∀ a b, a ≤ b → b < n → g a ≤ g b := fun a b h1 h2 => by rw [← h a (by omega), ← h b h2]; exact hf a b h1 h2
  have f1 := (bs_spec f t n hf).1
  have g1 := (bs_spec g t n hg).1
  have f2 := bs_lt (R := f) (t := t) (n := n) hf
  have g2 := bs_lt (R := g) (t := t) (n := n) hg
  by_cases c : bs f t n < bs g t n
  · have a1 := (g2 (bs f t n) (by omega)).1 c
    rw [← h _ (by omega)] at a1
    have := (f2 (bs f t n) (by omega)).2 a1
    omega
  · by_cases c' : bs g t n < bs f t n
    · have a1 := (f2 (bs g t n) (by omega)).1 c'
      rw [h _ (by omega)] at a1
      have := (g2 (bs g t n) (by omega)).2 a1
      omega
    · omega

theorem fr_low {x : Wr} (h1 : -9223372036854775808 ≤ x.r) (h2 : -9223372036854775808 ≤ x.rr) : -9223372036854775808 ≤ x.fr := by
  unfold Wr.fr
  cases x.read <;> cases x.failed <;> simp <;> omega

/-- The two answers are one. -/
theorem two_one {n : Nat} {X : Nat → Wr} {D : AD} {T : Int → Nat × Nat} {nv rv rc rr s ov : Int} {tk : Nat → Bool} {fr ca : Nat} {fd : Bool} (hDn : D.n = n) (hDv : D.nv = nv) (L : Lay D X) (ok : D.Ok) (sp : Spans n X n T) (lc : ∀ t, LcbS n X t (lcb D.OR D.OL t D.d))
    (hmc : ∀ a b, a ≤ b → b < n → (X a).v = (X b).v → (X a).c ≤ (X b).c) (hb : ∀ i, i < n → -9223372036854775808 ≤ (X i).c ∧ -9223372036854775808 ≤ (X i).r ∧ -9223372036854775808 ≤ (X i).rr) (hrr : -9223372036854775808 ≤ rr)
    (htk : ∀ i, i < n → (tk i = true ↔ TakesM n X nv rc rr i)) (fc : FC n X rv rr fr ca fd) (hov : LcbS n X rc ov) :
    admitF D rc rr (choicesF D T rv rc rr) s = admL tk (seqM X fr ca ov rc) (mrgM X fr ca rc) (idlM X fr) s := by
  subst hDn hDv
  obtain ⟨q1, q2, q3⟩ := sp.all rv
  have hm : ∀ x y, x ≤ y → y < (T rv).2 - (T rv).1 → (X ((T rv).1 + x)).c ≤ (X ((T rv).1 + y)).c := fun x y h1 h2 => hmc _ _ (by omega) (by omega) (((q3 _ (by omega)).1 ⟨by omega, by omega⟩).trans ((q3 _ (by omega)).1 ⟨by omega, by omega⟩).symm)
  have hz : (T rv).1 = (T rv).2 → (T rv).1 = 0 := fun e => by
    have hno : ¬ ∃ i, i < D.n ∧ (X i).v = rv := fun ⟨i, h1, h2⟩ => by have := (q3 i h1).2 h2; omega
    rw [sp.new rv hno]
  obtain ⟨e1, e2⟩ := fc.eq q1 q2 q3 hz hm
  have hre : (choicesF D T rv rc rr).re = ca := by
    show (T rv).1 + bs (fun k => D.call ((T rv).1 + k)) (rr + 1) ((T rv).2 - (T rv).1) = ca
    rw [e2, ← bs_congr (f := fun k => (X ((T rv).1 + k)).c) (g := fun k => D.call ((T rv).1 + k)) hm (fun k hk => (L.call _ (by omega)).symm)]
  have hmono : ∀ a b, (T rv).1 ≤ a → a ≤ b → b < (T rv).2 → D.call a ≤ D.call b := fun a b h1 h2 h3 => by
    rw [L.call a (by omega), L.call b (by omega)]
    exact hmc a b h2 (by omega) (((q3 a (by omega)).1 ⟨h1, by omega⟩).trans ((q3 b (by omega)).1 ⟨by omega, h3⟩).symm)
  have key := admit_model (s := s) (ov := ov) (tk := tk) L ok q1 q2 hmono (lc rc) hov (fun i hi => (hb i hi).1) (fun i hi => fr_low (hb i hi).2.1 (hb i hi).2.2) hrr htk
  rw [hre] at key
  rw [e1]
  exact key
end Go.Proofs.Qxb6609392a
