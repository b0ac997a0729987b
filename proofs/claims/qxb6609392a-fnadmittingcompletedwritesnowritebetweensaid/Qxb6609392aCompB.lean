/-
  The law over completed writes: its walk.
-/
import Derived.Test.Qxb6609392aCompA
import Derived.Test.Qxb6609392aRun
namespace Go.Proofs.Qxb6609392a
open Go.RowKit

theorem Try.info35 : (Try.prog.info? 35).map (fun i => (i.zero, i.size, i.bytes)) = some (some (.agg #[.int .i64 0, .int .i64 0, .int .i64 0, .bool false, .bool false, .int .i64 0, .int .i64 0]), 7, 48) := by kernel_rfl

theorem comp_plain {n : Nat} {Y : Nat → Dn} {D : AD} {T : Int → Nat × Nat} {nv rv rc rr : Int} (A : Nat → Bool) (hDn : D.n = n) (hnv : D.nv = nv) (L : Lay D (fun i => (Y i).wr)) (ok : D.Ok) (sp : Spans n (fun i => (Y i).wr) n T) (lc : ∀ t, LcbS n (fun i => (Y i).wr) t (lcb D.OR D.OL t D.d))
    (hcr : ∀ i, i < n → (Y i).c ≤ (Y i).r) (hr : ∀ i, i < n → -9223372036854775808 ≤ (Y i).r) (hrr : -9223372036854775808 ≤ rr) (hmc : ∀ a b, a ≤ b → b < n → (Y a).v = (Y b).v → (Y a).c ≤ (Y b).c)
    (hA : ∀ i, i < n → (A i = true ↔ (Y i).v = rv ∧ (Y i).c ≤ rr ∧ TakesM n (fun i => (Y i).wr) nv rc rr i)) :
    ScanR A n (admitF D rc rr (choicesF D T rv rc rr) (n + 4)).1 (admitF D rc rr (choicesF D T rv rc rr) (n + 4)).2.1 := by
  subst hDn hnv
  obtain ⟨q1, q2, q3⟩ := sp.all rv
  refine done_plain A L ok (fun i hi => ⟨rfl, rfl, hcr i hi, hr i hi⟩) hrr q1 q2 q3 (fun a b h1 h2 h3 => ?_) ?_ hA
  · rw [L.call a (by omega), L.call b (by omega)]
    exact hmc a b h2 (by omega) (((q3 a (by omega)).1 ⟨h1, by omega⟩).trans ((q3 b (by omega)).1 ⟨by omega, h3⟩).symm)
  · rcases (lc rc).2 with e | ⟨i, h1, _, h3, h4⟩
    · exact .inl e
    · exact .inr ⟨i, h1, h3, h4⟩

theorem ScanS.cases {A : Nat → Bool} {n t : Nat} {a b : Int} (h : ScanS A n t a b) : a = 0 ∨ a = 1 := by
  rcases h with ⟨h, _⟩ | ⟨h, _⟩
  · exact .inl h
  · exact .inr h

/-- Write x lies wholly between. -/
def Bad (Y : Nat → Dn) (i : Nat) (rc rr : Int) (x : Nat) : Prop := x ≠ i ∧ (Y x).r < max (Y i).c rc ∧ min (Y i).r rr < (Y x).c
theorem takes_bad {n : Nat} {Y : Nat → Dn} {nv rc rr : Int} {i : Nat} : TakesM n (fun i => (Y i).wr) nv rc rr i ↔ nv ≤ min (Y i).r rr ∧ ∀ x, x < n → ¬ Bad Y i rc rr x := by
  unfold TakesM Bad
  constructor
  · rintro ⟨h1, h2⟩
    exact ⟨h1, fun x hx ⟨a, b, c⟩ => h2 ⟨x, hx, a, rfl, b, c⟩⟩
  · rintro ⟨h1, h2⟩
    exact ⟨h1, fun ⟨x, hx, a, _, b, c⟩ => h2 x hx ⟨a, b, c⟩⟩

set_option maxRecDepth 100000 in
set_option maxHeartbeats 8000000 in
theorem comp_fn (ao : Option Addr) (n cap : Nat) (Y : Nat → Dn) (nv rv rc rr : Int) (w : World) (hY : SrcD w ao n Y) (hlen : n ≤ maxLen) (hwf : ∀ i, i < n → (Lit.int .i64 (Y i).v).wf = true) (hr : ∀ i, i < n → -9223372036854775808 ≤ (Y i).r) (hwv : (Lit.int .i64 rv).wf = true) (hrr : -9223372036854775808 ≤ rr) :
    Calls Try.prog 4 #[.slice ao n cap, .int .i64 nv, .int .i64 rv, .int .i64 rc, .int .i64 rr] w fun e w' => e = .returned (.bool true) ∧ Below w.heap.size w w' := by
  have hm : maxLen ≤ 9223372036854775807 := by unfold maxLen; omega
  by_cases h1 : n ≤ 1048576
  case neg =>
    have hd : decide (n ≤ 1048576) = false := by simpa using h1
    go_enter Try.func4, Try.ntmps4
    go_wp2_with (go_at_call 9; refine (bytes4_fn _ _ _ _ _ _ _ _ hlen).mono ?_; rintro e w' ⟨rfl, hw1⟩; have hw2 := hw1.symm; subst hw2)
    go_returns
    exact ⟨rfl, Below.refl _ _⟩
  case pos =>
  have hd : decide (n ≤ 1048576) = true := by simpa using h1
  by_cases h2 : n * 24 ≤ 1048576
  case neg =>
    go_enter Try.func4, Try.ntmps4
    go_wp2_with (go_at_call 9; refine (bytes4_fn _ _ _ _ _ _ _ _ hlen).mono ?_; rintro e w' ⟨rfl, hw1⟩; have hw2 := hw1.symm; subst hw2)
    go_returns
    exact ⟨rfl, Below.refl _ _⟩
  case pos =>
  by_cases h3 : n ≤ 4096
  case neg =>
    go_enter Try.func4, Try.ntmps4
    go_wp2_with (go_at_call 9; refine (bytes4_fn _ _ _ _ _ _ _ _ hlen).mono ?_; rintro e w' ⟨rfl, hw1⟩; have hw2 := hw1.symm; subst hw2)
    go_returns
    exact ⟨rfl, Below.refl _ _⟩
  case pos =>
  by_cases h4 : rc ≤ rr
  case neg =>
    go_enter Try.func4, Try.ntmps4
    go_wp2_with (go_at_call 9; refine (bytes4_fn _ _ _ _ _ _ _ _ hlen).mono ?_; rintro e w' ⟨rfl, hw1⟩; have hw2 := hw1.symm; subst hw2)
    go_returns
    exact ⟨rfl, Below.refl _ _⟩
  case pos =>
  obtain ⟨i35, a0, a1, a2, a3⟩ := info_parts Try.info35
  go_enter Try.func4, Try.ntmps4
  go_wp2_with (go_at_call 9; refine (bytes4_fn _ _ _ _ _ _ _ _ hlen).mono ?_; rintro e w' ⟨rfl, hw1⟩; have hw2 := hw1.symm; subst hw2)
  go_loopw [11] (fun vi wr => ∃ i : Nat, i ≤ n ∧ vi = .int .i64 i ∧ (∀ j, j < i → (Y j).c ≤ (Y j).r) ∧ Below w.heap.size w wr) (fun vi _ => n - (intOf vi).toNat)
  case atStart => exact ⟨0, Nat.zero_le _, rfl, fun j hj => by omega, Below.refl _ _⟩
  case round =>
    obtain ⟨i, hin, rfl, hcr, bel⟩ := hrel
    have HCR : Hid _ := hcr
    have HB : Hid _ := bel
    clear hcr bel hd
    by_cases hi : i < n
    · obtain ⟨b, o, hao, hc⟩ := (hY.keep HB.out).resolve_left (by omega)
      subst hao
      obtain ⟨-, q1, q2⟩ := hc i hi
      clear hc
      by_cases hc1 : (Y i).c ≤ (Y i).r
      · have hcb : decide ((Y i).r < (Y i).c) = false := by simpa using hc1
        go_wp2_with fail
        go_quiet (fail)
        go_wp2_with fail
        exact ⟨⟨i + 1, by omega, by go_num, fun j hj => by
          by_cases e : j = i
          · subst e; exact hc1
          · exact HCR.out j (by omega), belowN HB.out _⟩, by simp [intOf]; omega⟩
      · have hcb : decide ((Y i).r < (Y i).c) = true := by simp; omega
        go_wp2_with fail
        go_quiet (fail)
        go_wp2_with fail
        go_returns
        exact ⟨rfl, belowN HB.out _⟩
    · have e1 : n = i := by omega
      subst e1
      clear hi
      go_wp2_with fail
      refine (sortedDone_fn ao n cap Y _ (hY.keep HB.out) h3).mono ?_
      rintro e W1 ⟨z, rfl, hz, B1⟩
      have HB1 : Hid _ := HB.out.trans (B1.mono HB.out.size)
      clear B1 HB
      cases z with
      | false =>
        go_wp2_with fail
        go_returns
        exact ⟨rfl, HB1.out⟩
      | true =>
        have HST : Hid _ := steps_le (hz rfl)
        clear hz
        go_wp2_with (at_make; refine wpList_make_full _ rfl _ _ 22 rfl 0 35 i35 _ 7 Try.underlying22 a0 a1 a2 _ _ _ _ n rfl rfl rfl rfl (by rw [a3]; omega) (by simp [maxLen]; omega) (Nat.zero_le _) ?_; intro W2 o2 g2)
        have hf0 : ∃ o, W2.heap[W1.heap.size]? = some o ∧ FulO n 0 Y o := FulO.of o2
        have HB2 : Hid _ := HB1.out.trans ((below_grown g2).mono HB1.out.size)
        have hbf : w.heap.size ≤ W1.heap.size := HB1.out.size
        clear o2 g2 HB1
        generalize W1.heap.size = bf at *
        go_loopw [13] (fun vi wr => ∃ i : Nat, i ≤ n ∧ vi = .int .i64 i ∧ (∃ o, wr.heap[bf]? = some o ∧ FulO n i Y o) ∧ Below w.heap.size w wr) (fun vi _ => n - (intOf vi).toNat)
        case atStart => exact ⟨0, Nat.zero_le _, rfl, hf0, HB2.out⟩
        case round =>
          clear hf0 HB2
          obtain ⟨i, hin, rfl, hfo, bel⟩ := hrel
          have HB : Hid _ := bel
          clear bel
          by_cases hi : i < n
          · obtain ⟨b, o, hao, hc⟩ := (hY.keep HB.out).resolve_left (by omega)
            subst hao
            obtain ⟨q0, q1, q2⟩ := hc i hi
            clear hc
            have hbn : ¬ b = bf := by
              rcases hY with e | ⟨b', o', e, hc'⟩
              · omega
              · cases e
                have : b < w.heap.size := World.block_lt_of_cell? w ⟨b, o + i * 3, none⟩ (hc' i hi).1
                omega
            obtain ⟨ob, g1, g2⟩ := hfo
            obtain ⟨⟨y0, k0⟩, z0⟩ := g2.at_ g1 (i * 7) (by omega)
            obtain ⟨⟨y1, k1⟩, z1⟩ := g2.at_ g1 (i * 7 + 1) (by omega)
            obtain ⟨⟨y2, k2⟩, z2⟩ := g2.at_ g1 (i * 7 + 2) (by omega)
            obtain ⟨⟨y3, k3⟩, z3⟩ := g2.at_ g1 (i * 7 + 3) (by omega)
            obtain ⟨⟨y4, k4⟩, z4⟩ := g2.at_ g1 (i * 7 + 4) (by omega)
            obtain ⟨⟨y5, k5⟩, z5⟩ := g2.at_ g1 (i * 7 + 5) (by omega)
            obtain ⟨⟨y6, k6⟩, z6⟩ := g2.at_ g1 (i * 7 + 6) (by omega)
            have i3 : (i : Int) < (n : Int) := by omega
            have i4 : (0 : Int) ≤ (i : Int) := by omega
            have HF : Hid _ := heap_drew (g2.set g1 hi)
            have kp := ful_kept wr bf i (.int .i64 (Y i).v) (.int .i64 (Y i).c) (.int .i64 (Y i).r) (.bool false) (.bool false) (.int .i64 0) (.int .i64 0)
            have HBN : Hid _ := (HB.out.trans (kp.below HB.out.size (fun x hx => by simp at hx; omega))).drew
            have hbl : b ∉ [bf] := by simpa using hbn
            have hs0 := And.intro q0 (And.intro q1 q2)
            have HS0 : Hid _ := hs0
            have HS1 : Hid _ := held_drew hs0
            have HS7 : Hid _ := held_kept kp hs0 hbl hbl hbl
            have HS8 : Hid _ := held_drew (held_kept kp hs0 hbl hbl hbl)
            clear hs0 hbl
            clear kp
            clear g1 g2
            go_wp2_with fail
            go_region_held3 (fun w' => w'.cell? ⟨b, o + i * 3, none⟩ = some (.int .i64 (Y i).v) ∧ w'.cell? ⟨b, o + i * 3 + 1, none⟩ = some (.int .i64 (Y i).c) ∧ w'.cell? ⟨b, o + i * 3 + 2, none⟩ = some (.int .i64 (Y i).r)) (first | with_reducible exact HS0.out | with_reducible exact HS1.out | with_reducible exact HS8.out | with_reducible exact HS7.out) (fail)
            all_goals
              go_wp2_with fail
              exact ⟨⟨i + 1, by omega, by go_num, HF.out, HBN.out⟩, by simp [intOf]; omega⟩
          · have e1 : n = i := by omega
            subst e1
            clear hi
            have HX : Hid (SrcX wr (some ⟨bf, 0, none⟩) n (fun i => (Y i).wr)) := by
              obtain ⟨o, g1, g2⟩ := hfo
              exact (FulO.src g1 g2 : SrcX wr (some ⟨bf, 0, none⟩) n (fun i => (Y i).wr))
            clear hfo
            go_wp2_with fail
            refine (run_fn (some ⟨bf, 0, none⟩) none n 0 n 0 (fun i => (Y i).wr) (fun _ => 0) nv (n + 4) rv rc rr 0 wr HX.out (.inl rfl) h3 (Nat.zero_le _) hwf (fun a b q1 q2 => (HST.out a b q1 q2).1) (fun a b q1 q2 => (HST.out a b q1 q2).2) hwv (by omega)).mono ?_
            rintro e W4 ⟨D, T, hDn, hDv, lay, ok, sp, lc, rfl, B4⟩
            obtain ⟨A, hA⟩ : ∃ A : Nat → Bool, ∀ i, A i = true ↔ (Y i).v = rv ∧ (Y i).c ≤ rr ∧ TakesM n (fun i => (Y i).wr) nv rc rr i := ⟨fun i => @decide _ (Classical.propDecidable ((Y i).v = rv ∧ (Y i).c ≤ rr ∧ TakesM n (fun i => (Y i).wr) nv rc rr i)), fun i => by simp⟩
            have HR : Hid (ScanR A n (admitF D rc rr (choicesF D T rv rc rr) (n + 4)).1 (admitF D rc rr (choicesF D T rv rc rr) (n + 4)).2.1) := comp_plain A hDn hDv lay ok sp lc HCR.out hr hrr (fun a b q1 q2 => (HST.out a b q1 q2).2) (fun i _ => hA i)
            have HAA : Hid _ := hA
            have HB4 : Hid _ := HB.out.trans (B4.mono HB.out.size)
            clear lay ok sp lc hDn hDv hA B4 HB HX HCR HST
            generalize (admitF D rc rr (choicesF D T rv rc rr) (n + 4)).1 = CNT at *
            generalize (admitF D rc rr (choicesF D T rv rc rr) (n + 4)).2.1 = FST at *
            generalize (admitF D rc rr (choicesF D T rv rc rr) (n + 4)).2.2 = LFT at *
            clear D T
            go_wp2_with fail
            go_loopw [17, 18, 19] (fun va vb vi wr => ∃ (t : Nat) (a b : Int), t ≤ n ∧ vi = .int .i64 ((t : Int) - 1) ∧ va = .int .i64 a ∧ vb = .int .i64 b ∧ ScanS A n t a b ∧ Below w.heap.size w wr) (fun _ _ vi _ => (intOf vi + 1).toNat)
            case atStart => exact ⟨n, 0, -1, Nat.le_refl _, by go_num, rfl, rfl, ScanS.start A n, HB4.out⟩
            case round =>
              clear HB4
              obtain ⟨t, a, b, htn, rfl, rfl, rfl, hsc, bel⟩ := hrel
              have HSC : Hid (ScanS A n t a b) := hsc
              have HB : Hid _ := bel
              clear hsc bel
              by_cases ht : t = 0
              · subst ht
                obtain ⟨e1, e2⟩ := HSC.out.done HR.out
                subst e1 e2
                go_wp2_with fail
                go_returns
                exact ⟨rfl, HB.out⟩
              · obtain ⟨t', rfl⟩ : ∃ t', t = t' + 1 := ⟨t - 1, by omega⟩
                rw [show ((t' + 1 : Nat) : Int) - 1 = t' from by omega]
                have i1 : (0 : Int) ≤ (t' : Int) := by omega
                have i2 : (t' : Int) < (n : Int) := by omega
                obtain ⟨bb, o, hao, hc⟩ := (hY.keep HB.out).resolve_left (by omega)
                subst hao
                obtain ⟨q0, q1, q2⟩ := hc t' (by omega)
                have HC : Hid _ := hc
                clear hc ht
                by_cases hv : (Y t').v = rv
                case neg =>
                  have hvb : ((Y t').v != rv) = true := by simpa using hv
                  have HF : Hid (A t' = false) := by
                    have := HAA.out t'
                    cases hh : A t' with
                    | false => exact (rfl : false = false)
                    | true => exact absurd (this.1 hh).1 hv
                  clear hv
                  go_wp2_with fail
                  exact ⟨⟨t', a, b, by omega, by go_num, rfl, rfl, HSC.out.pass HF.out, HB.out⟩, by simp only [intOf]; omega⟩
                case pos =>
                have hvb : ((Y t').v != rv) = false := by simpa using hv
                have HV : Hid _ := hv
                clear hv
                by_cases hcc : (Y t').c ≤ rr
                case neg =>
                  have hcb : decide (rr < (Y t').c) = true := by simp; omega
                  have HF : Hid (A t' = false) := by
                    have := HAA.out t'
                    cases hh : A t' with
                    | false => exact (rfl : false = false)
                    | true => exact absurd (this.1 hh).2.1 hcc
                  go_wp2_with fail
                  exact ⟨⟨t', a, b, by omega, by go_num, rfl, rfl, HSC.out.pass HF.out, HB.out⟩, by simp only [intOf]; omega⟩
                case pos =>
                have hcb : decide (rr < (Y t').c) = false := by simpa using hcc
                by_cases hfr : nv ≤ min (Y t').r rr
                case neg =>
                  have hfb : decide (min (Y t').r rr < nv) = true := by simp only [decide_eq_true_eq]; omega
                  have HF : Hid (A t' = false) := by
                    have := HAA.out t'
                    cases hh : A t' with
                    | false => exact (rfl : false = false)
                    | true => exact absurd (this.1 hh).2.2.1 hfr
                  clear hfr
                  go_wp2_with (first | (go_at_call 11; refine (max64_any _ _ _).mono ?_; rintro e w' ⟨rfl, hw1⟩; have hw2 := hw1.symm; subst hw2) | (go_at_call 12; refine (min64_any _ _ _).mono ?_; rintro e w' ⟨rfl, hw1⟩; have hw2 := hw1.symm; subst hw2))
                  exact ⟨⟨t', a, b, by omega, by go_num, rfl, rfl, HSC.out.pass HF.out, HB.out⟩, by simp only [intOf]; omega⟩
                case pos =>
                have hfb : decide (min (Y t').r rr < nv) = false := by simp only [decide_eq_false_iff_not]; omega
                have HFR : Hid _ := hfr
                clear hfr
                go_wp2_with (first | (go_at_call 11; refine (max64_any _ _ _).mono ?_; rintro e w' ⟨rfl, hw1⟩; have hw2 := hw1.symm; subst hw2) | (go_at_call 12; refine (min64_any _ _ _).mono ?_; rintro e w' ⟨rfl, hw1⟩; have hw2 := hw1.symm; subst hw2))
                go_loopw [22, 23] (fun vb vj wr2 => ∃ j : Nat, j ≤ n ∧ vj = .int .i64 j ∧ vb = .bool false ∧ (∀ x, x < j → ¬ Bad Y t' rc rr x) ∧ wr2 = wr) (fun _ vj _ => n - (intOf vj).toNat)
                case atStart => exact ⟨0, Nat.zero_le _, rfl, rfl, fun x hx => by omega, rfl⟩
                case round =>
                  obtain ⟨j, hjn, rfl, rfl, hbd, hw3⟩ := hrel
                  subst hw3
                  have HBD : Hid (∀ x, x < j → ¬ Bad Y t' rc rr x) := hbd
                  clear hbd
                  by_cases hj : j < n
                  · obtain ⟨r0, r1, r2⟩ := HC.out j hj
                    have i5 : (j : Int) < (n : Int) := by omega
                    have nb : ∀ (_ : ¬ Bad Y t' rc rr j), ∀ x, x < j + 1 → ¬ Bad Y t' rc rr x := fun h x hx => by
                      by_cases e : x = j
                      · subst e; exact h
                      · exact HBD.out x (by omega)
                    by_cases hjt : j = t'
                    · have hjb : ((j : Int) != (t' : Int)) = false := by simp [hjt]
                      have HN : Hid _ := nb (fun h => h.1 hjt)
                      clear nb hjt
                      go_wp2_with fail
                      exact ⟨⟨j + 1, by omega, by go_num, rfl, HN.out, trivial⟩, by simp [intOf]; omega⟩
                    · have hjb : ((j : Int) != (t' : Int)) = true := by simpa using fun e : (j : Int) = t' => hjt (by omega)
                      have HJT : Hid _ := hjt
                      clear hjt
                      by_cases hb1 : (Y j).r < max (Y t').c rc
                      · have hb1b : decide ((Y j).r < max (Y t').c rc) = true := decide_eq_true hb1
                        by_cases hb2 : min (Y t').r rr < (Y j).c
                        · have hb2b : decide (min (Y t').r rr < (Y j).c) = true := decide_eq_true hb2
                          have HF : Hid (A t' = false) := by
                            have := HAA.out t'
                            cases hh : A t' with
                            | false => exact (rfl : false = false)
                            | true => exact absurd ⟨HJT.out, hb1, hb2⟩ ((takes_bad.1 (this.1 hh).2.2).2 j hj)
                          clear nb hb1 hb2
                          go_wp2_with fail
                          exact ⟨⟨t', a, b, by omega, by go_num, rfl, rfl, HSC.out.pass HF.out, HB.out⟩, by simp only [intOf]; omega⟩
                        · have hb2b : decide (min (Y t').r rr < (Y j).c) = false := decide_eq_false hb2
                          have HN : Hid _ := nb (fun h => hb2 h.2.2)
                          clear nb hb1 hb2
                          go_wp2_with fail
                          exact ⟨⟨j + 1, by omega, by go_num, rfl, HN.out, trivial⟩, by simp [intOf]; omega⟩
                      · have hb1b : decide ((Y j).r < max (Y t').c rc) = false := decide_eq_false hb1
                        have HN : Hid _ := nb (fun h => hb1 h.2.1)
                        clear nb hb1
                        go_wp2_with fail
                        exact ⟨⟨j + 1, by omega, by go_num, rfl, HN.out, trivial⟩, by simp [intOf]; omega⟩
                  · have hAt : A t' = true := (HAA.out t').2 ⟨HV.out, hcc, takes_bad.2 ⟨HFR.out, fun x hx => HBD.out x (by omega)⟩⟩
                    have HAT : Hid _ := hAt
                    clear hAt
                    rcases HSC.out.cases with e | e
                    · subst e
                      go_wp2_with fail
                      exact ⟨⟨t', 1, t', by omega, by go_num, rfl, rfl, HSC.out.hit (by omega) HAT.out, HB.out⟩, by simp only [intOf]; omega⟩
                    · subst e
                      obtain ⟨e1, e2⟩ := HSC.out.two HAT.out HR.out
                      subst e1 e2
                      go_wp2_with fail
                      go_returns
                      exact ⟨rfl, HB.out⟩
end Go.Proofs.Qxb6609392a
