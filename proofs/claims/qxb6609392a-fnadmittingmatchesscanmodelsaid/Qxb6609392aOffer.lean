/-
  offer: the next write that admits the read.
-/
import Derived.Test.Qxb6609392aNext
namespace Go.Proofs.Qxb6609392a
open Go.RowKit

/-- The read, a value. -/
def rdVal (b f : Bool) (v rc rr sl : Int) : Value := .agg #[.bool b, .int .i64 v, .int .i64 rc, .int .i64 rr, .bool f, .int .i64 sl]

def AD.takes (D : AD) (rc rr : Int) (i : Nat) : Bool := D.admits i (max (D.CL i) rc) (min (D.CF i) rr)

/-- offer, with as many rounds as the steps allow. -/
def offerN (D : AD) (rc rr : Int) : Nat → Ch → Int → Int × Ch × Int
  | 0, c, s => (-1, c, s)
  | k + 1, c, s =>
    if (nextF D c s).1 < 0 then (-1, (nextF D c s).2.1, (nextF D c s).2.2)
    else if D.takes rc rr (nextF D c s).1.toNat then nextF D c s
    else offerN D rc rr k (nextF D c s).2.1 (nextF D c s).2.2
def offerF (D : AD) (rc rr : Int) (c : Ch) (s : Int) : Int × Ch × Int := offerN D rc rr (s.toNat + 1) c s

/-- Behind one next. -/
def after (D : AD) (rc rr : Int) (k : Nat) (i : Int) (c : Ch) (s : Int) : Int × Ch × Int :=
  if i < 0 then (-1, c, s) else if D.takes rc rr i.toNat then (i, c, s) else offerN D rc rr k c s

theorem offerN_after (D : AD) (rc rr : Int) (k : Nat) (c : Ch) (s : Int) : offerN D rc rr (k + 1) c s = after D rc rr k (nextF D c s).1 (nextF D c s).2.1 (nextF D c s).2.2 := rfl

/-- The choices' bounds. -/
structure Ch.Ok (D : AD) (c : Ch) : Prop where
  h1 : c.fr ≤ D.n
  h2 : c.re ≤ D.n
  h3 : c.id ≤ D.n

theorem lst_lt (N : Nat → Int) (p fr : Nat) (bd : Int) (to : Nat) : lst N p fr bd to = -1 ∨ ∃ q : Nat, lst N p fr bd to = q ∧ fr ≤ q ∧ q < to := by
  rcases lst_spec N p fr bd to with ⟨e, _⟩ | ⟨q, e, e1, e2, _⟩
  · exact .inl e
  · exact .inr ⟨q, e, e1, e2⟩

theorem nextF_ok {D : AD} {c : Ch} {s : Int} (h : c.Ok D) : (nextF D c s).2.1.Ok D ∧ (nextF D c s).1 < D.n ∧ (nextF D c s).2.2 ≤ max s (-1) ∧ ((0 ≤ (nextF D c s).1) → 0 < s ∧ (nextF D c s).2.2 = s - 1) ∧ (nextF D c s).2.1.cl = c.cl ∧ (nextF D c s).2.1.fr = c.fr := by
  have hi := lst_lt D.N2 D.p2 c.fr c.bd c.re
  have hj := lst_lt D.N3 D.p3 c.fr 0 c.id
  obtain ⟨h1, h2, h3⟩ := h
  unfold nextF
  generalize lst D.N2 D.p2 c.fr c.bd c.re = i at *
  generalize lst D.N3 D.p3 c.fr 0 c.id = j at *
  split
  · exact ⟨⟨h1, h2, h3⟩, by show (-1 : Int) < _; omega, by show (-1 : Int) ≤ _; omega, fun h => by simp at h, rfl, rfl⟩
  · split
    · rename_i hh
      refine ⟨⟨h1, ?_, h3⟩, ?_, ?_, fun _ => ⟨by omega, rfl⟩, rfl, rfl⟩
      · show i.toNat ≤ _; rcases hi with e | ⟨q, e, _, _⟩ <;> omega
      · show i < _; rcases hi with e | ⟨q, e, _, _⟩ <;> omega
      · show s - 1 ≤ _; omega
    · split
      · refine ⟨⟨h1, ?_, h1⟩, ?_, ?_, fun _ => ⟨by omega, rfl⟩, rfl, rfl⟩
        · show (if c.fr < c.re then c.fr else c.re) ≤ _; split <;> omega
        · show j < _; rcases hj with e | ⟨q, e, _, _⟩ <;> omega
        · show s - 1 ≤ _; omega
      · refine ⟨⟨h1, ?_, ?_⟩, ?_, ?_, fun _ => ⟨by omega, rfl⟩, rfl, rfl⟩
        · show (if c.fr < c.re then c.fr else c.re) ≤ _; split <;> omega
        · show max j.toNat c.fr ≤ _; rcases hj with e | ⟨q, e, _, _⟩ <;> omega
        · show j < _; rcases hj with e | ⟨q, e, _, _⟩ <;> omega
        · show s - 1 ≤ _; omega

def stepsOf (W : World) (S : Nat) : Nat := match W.cell? ⟨S, 0, none⟩ with
  | some (.int _ s) => s.toNat
  | _ => 0
theorem St.steps {W : World} {L S : Nat} {c : Ch} {s : Int} (h : St W L S c s) : stepsOf W S = s.toNat := by unfold stepsOf; rw [h.s0]
def posOf (v : Value) : Nat := if 0 ≤ intOf v then 1 else 0

set_option maxHeartbeats 4000000 in
theorem offer_fn (A : Nat) (D : AD) (L : Nat) (c : Ch) (s : Int) (b f : Bool) (v rc rr sl : Int) (w : World) (h : Asg w A D) (ok : D.Ok) (st : St w L D.S c s) (hd : Dis A D L) (hc : c.Ok D) (hsb : s ≤ 9223372036854775807) :
    Calls Try.prog 29 #[.pointer (some ⟨A, 0, none⟩), .pointer (some ⟨L, 0, none⟩), rdVal b f v rc rr sl] w fun e w' =>
      e = .returned (.int .i64 (offerF D rc rr c s).1) ∧ St w' L D.S (offerF D rc rr c s).2.1 (offerF D rc rr c s).2.2 ∧ Kept [L, D.S] w w' := by
  unfold rdVal
  have hb1 := below1 w (.cells #[.bool b, .int .i64 v, .int .i64 rc, .int .i64 rr, .bool f, .int .i64 sl] 57)
  have r0 : (w.alloc (.cells #[.bool b, .int .i64 v, .int .i64 rc, .int .i64 rr, .bool f, .int .i64 sl] 57)).cell? ⟨w.heap.size, 0, none⟩ = some (.bool b) := by simp [go_sem]
  have r1 : (w.alloc (.cells #[.bool b, .int .i64 v, .int .i64 rc, .int .i64 rr, .bool f, .int .i64 sl] 57)).cell? ⟨w.heap.size, 1, none⟩ = some (.int .i64 v) := by simp [go_sem]
  have r2 : (w.alloc (.cells #[.bool b, .int .i64 v, .int .i64 rc, .int .i64 rr, .bool f, .int .i64 sl] 57)).cell? ⟨w.heap.size, 2, none⟩ = some (.int .i64 rc) := by simp [go_sem]
  have r3 : (w.alloc (.cells #[.bool b, .int .i64 v, .int .i64 rc, .int .i64 rr, .bool f, .int .i64 sl] 57)).cell? ⟨w.heap.size, 3, none⟩ = some (.int .i64 rr) := by simp [go_sem]
  have r4 : (w.alloc (.cells #[.bool b, .int .i64 v, .int .i64 rc, .int .i64 rr, .bool f, .int .i64 sl] 57)).cell? ⟨w.heap.size, 4, none⟩ = some (.bool f) := by simp [go_sem]
  have as1 := h.keep hb1
  have st1 := st.keep hb1
  have hL : L ≠ w.heap.size := Nat.ne_of_lt (World.block_lt_of_cell? w _ st.l0)
  have hS : D.S ≠ w.heap.size := Nat.ne_of_lt (World.block_lt_of_cell? w _ st.s0)
  have hout : w.heap.size ∉ [L, D.S] := by simp; exact ⟨fun e => hL e.symm, fun e => hS e.symm⟩
  have OK : Hid _ := ok
  have HD : Hid _ := hd
  have hn := ok.hn
  clear h ok st hd
  go_enter Try.func29, Try.ntmps29
  go_wp2_with fail
  generalize (w.alloc (.cells #[.bool b, .int .i64 v, .int .i64 rc, .int .i64 rr, .bool f, .int .i64 sl] 57)) = W1 at *
  refine (next_fn A D L c s W1 as1 OK.out st1 HD.out hc.h1 hc.h2 hc.h3 hsb).mono ?_
  rintro e W2 ⟨rfl, st2, kp2⟩
  have nk := nextF_ok (s := s) hc
  have hE : offerF D rc rr c s = after D rc rr (s.toNat) (nextF D c s).1 (nextF D c s).2.1 (nextF D c s).2.2 := offerN_after D rc rr _ c s
  have hfuel : (nextF D c s).2.2.toNat ≤ s.toNat := by have := nk.2.2.1; omega
  have hfu2 : 0 ≤ (nextF D c s).1 → (nextF D c s).2.2.toNat + 1 ≤ s.toNat := fun h0 => by have := nk.2.2.2.1 h0; omega
  have hs2 : (nextF D c s).2.2 ≤ 9223372036854775807 := by have := nk.2.2.1; omega
  obtain ⟨nk1, nk2, _⟩ := nk
  generalize (nextF D c s).1 = i2 at *
  generalize (nextF D c s).2.1 = c2 at *
  generalize (nextF D c s).2.2 = s2 at *
  generalize s.toNat = K at *
  have HE : Hid _ := hE
  clear hE
  go_wp2_with fail
  go_loopw [7] (fun vi wr => ∃ (k : Nat) (i : Int) (c' : Ch) (s' : Int), vi = .int .i64 i ∧ i < D.n ∧ St wr L D.S c' s' ∧ c'.Ok D ∧ s' ≤ 9223372036854775807 ∧ offerF D rc rr c s = after D rc rr k i c' s' ∧ (0 ≤ i → s'.toNat + 1 ≤ k) ∧ Kept [L, D.S] W1 wr) (fun vi wr => 2 * stepsOf wr D.S + posOf vi)
  case atStart => exact ⟨K, i2, c2, s2, rfl, nk2, st2, nk1, hs2, HE.out, hfu2, kp2⟩
  case round =>
    clear st2 kp2 HE hfu2 nk1 nk2 hs2 hfuel st1
    obtain ⟨k, i, c', s', rfl, hi, st, hcc, hsx, hE, hk, kp⟩ := hrel
    have HE : Hid _ := hE
    clear hE
    by_cases hneg : i < 0
    · have he : after D rc rr k i c' s' = (-1, c', s') := by unfold after; rw [if_pos hneg]
      have HE2 : Hid (offerF D rc rr c s = (-1, c', s')) := HE.out.trans he
      clear HE he
      go_wp2_with fail
      go_returns
      rw [HE2.out]
      exact ⟨rfl, st, (Kept.of hb1).trans kp⟩
    · obtain ⟨q, rfl⟩ : ∃ q : Nat, i = q := ⟨i.toNat, by omega⟩
      have hq : q < D.n := by omega
      have asg := as1.kept HD.out kp
      have nw : Nonempty (BW wr) := ⟨⟨wr, Below.refl _ _⟩⟩
      have x0 := BW.cell (kp.cell r0 hout)
      have x1 := BW.cell (kp.cell r1 hout)
      have x2 := BW.cell (kp.cell r2 hout)
      have x3 := BW.cell (kp.cell r3 hout)
      have x4 := BW.cell (kp.cell r4 hout)
      have y1 := BW.cell asg.c1
      have y2 := BW.cell (asg.k0 q hq)
      have y3 := BW.cell (asg.k1 q hq)
      have y4 := BW.cell (asg.k2 q hq)
      have hqn : (q : Int) < (D.n : Int) := by omega
      have hq0 : (0 : Int) ≤ (q : Int) := by omega
      have k1 : ∀ m : BW wr, Calls Try.prog 37 #[.agg #[.int .i64 (D.CW q), .int .i64 (D.CL q), .int .i64 (D.CF q)], .agg #[.bool b, .int .i64 v, .int .i64 rc, .int .i64 rr, .bool f]] m.W fun e w'' => e = .returned (.agg #[.int .i64 (D.CW q), .int .i64 (max (D.CL q) rc), .int .i64 (min (D.CF q) rr)]) ∧ ∃ m : BW wr, w'' = m.W :=
        fun m => Calls.bw (with_any (D.CW q) (D.CL q) (D.CF q) b f v rc rr m.W)
      have k2 : ∀ m : BW wr, Calls Try.prog 36 #[.pointer (some ⟨A, 0, none⟩), .int .i64 q, .agg #[.int .i64 (D.CW q), .int .i64 (max (D.CL q) rc), .int .i64 (min (D.CF q) rr)]] m.W fun e w'' => e = .returned (.bool (D.takes rc rr q)) ∧ ∃ m : BW wr, w'' = m.W :=
        fun m => Calls.bw (admits_fn A D q (D.CW q) (max (D.CL q) rc) (min (D.CF q) rr) m.W (asg.keep m.ok) OK.out hq)
      have K1 : Hid _ := k1
      have K2 : Hid _ := k2
      clear k1 k2
      have hkk := hk hq0
      obtain ⟨k', rfl⟩ : ∃ k', k = k' + 1 := ⟨k - 1, by omega⟩
      have HE3 : Hid (offerF D rc rr c s = if D.takes rc rr q then ((q : Int), c', s') else offerN D rc rr (k' + 1) c' s') := by
        have := HE.out
        unfold after at this
        rw [if_neg hneg] at this
        exact this
      clear HE hk hneg
      go_wp2_with fail
      refine region_bw (by kernel_rfl) (by kernel_rfl) ?_
      repeat (go_big_quiet_step (first | (with_reducible exact K1.out _) | (with_reducible exact K2.out _)))
      refine wpQuiet_nil ?_
      rintro W5 ⟨⟨_, B5⟩, rfl⟩
      have st5 := st.keep B5
      have kp5 := kp.trans (Kept.of B5)
      have as5 := asg.keep B5
      clear x0 x1 x2 x3 x4 y1 y2 y3 y4 K1 K2 asg nw
      cases ht : D.takes rc rr q with
      | true =>
        have HE4 : Hid (offerF D rc rr c s = ((q : Int), c', s')) := by
          have := HE3.out
          rw [ht, if_pos rfl] at this
          exact this
        clear HE3 ht
        go_wp2_with fail
        go_returns
        rw [HE4.out]
        exact ⟨rfl, st5, (Kept.of hb1).trans kp5⟩
      | false =>
        have HE4 : Hid (offerF D rc rr c s = after D rc rr k' (nextF D c' s').1 (nextF D c' s').2.1 (nextF D c' s').2.2) := by
          have := HE3.out
          rw [ht, if_neg Bool.false_ne_true] at this
          exact this
        clear HE3 ht
        go_wp2_with fail
        refine (next_fn A D L c' s' W5 as5 OK.out st5 HD.out hcc.h1 hcc.h2 hcc.h3 hsx).mono ?_
        rintro e W6 ⟨rfl, st6, kp6⟩
        have nk := nextF_ok (s := s') hcc
        have hst : stepsOf wr D.S = s'.toNat := st.steps
        have hst6 : stepsOf W6 D.S = (nextF D c' s').2.2.toNat := st6.steps
        have hm1 : 2 * (nextF D c' s').2.2.toNat + posOf (.int .i64 (nextF D c' s').1) < 2 * s'.toNat + 1 := by
          unfold posOf
          show 2 * (nextF D c' s').2.2.toNat + (if 0 ≤ (nextF D c' s').1 then 1 else 0) < _
          split
          · rename_i h0
            have := nk.2.2.2.1 h0
            omega
          · have := nk.2.2.1
            omega
        have hf2 : 0 ≤ (nextF D c' s').1 → (nextF D c' s').2.2.toNat + 1 ≤ k' := fun h0 => by have := nk.2.2.2.1 h0; omega
        have hs6 : (nextF D c' s').2.2 ≤ 9223372036854775807 := by have := nk.2.2.1; omega
        obtain ⟨nk1, nk2, _⟩ := nk
        generalize (nextF D c' s').1 = i6 at *
        generalize (nextF D c' s').2.1 = c6 at *
        generalize (nextF D c' s').2.2 = s6 at *
        have HM : Hid _ := hm1
        have HF : Hid _ := hf2
        have HST : Hid _ := hst
        have HST6 : Hid _ := hst6
        clear hm1 hf2 hst hst6
        go_wp2_with fail
        refine ⟨⟨k', i6, c6, s6, rfl, nk2, st6, nk1, hs6, HE4.out, HF.out, kp5.trans kp6⟩, ?_⟩
        rw [HST.out, HST6.out]
        exact HM.out
end Go.Proofs.Qxb6609392a
