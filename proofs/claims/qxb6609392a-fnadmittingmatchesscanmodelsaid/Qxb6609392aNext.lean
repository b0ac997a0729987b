/-
  next: the next write is taken out of the choices.
-/
import Derived.Test.Qxb6609392aAsg
namespace Go.Proofs.Qxb6609392a
open Go.RowKit

/-- W' is W, but for the blocks of X, and new ones. -/
structure Kept (X : List Nat) (W W' : World) : Prop where
  os : W'.os = W.os
  tape : W'.tape = W.tape
  output : W'.output = W.output
  size : W.heap.size ≤ W'.heap.size
  same : ∀ k, k < W.heap.size → k ∉ X → W'.heap[k]? = W.heap[k]?

theorem Kept.refl (X : List Nat) (W : World) : Kept X W W := ⟨rfl, rfl, rfl, Nat.le_refl _, fun _ _ _ => rfl⟩
theorem Kept.trans {X : List Nat} {a b c : World} (h : Kept X a b) (k : Kept X b c) : Kept X a c :=
  ⟨k.os.trans h.os, k.tape.trans h.tape, k.output.trans h.output, Nat.le_trans h.size k.size, fun i hi hx => (k.same i (Nat.lt_of_lt_of_le hi h.size) hx).trans (h.same i hi hx)⟩
theorem Kept.of {X : List Nat} {a b : World} (h : Below a.heap.size a b) : Kept X a b := ⟨h.os, h.tape, h.output, h.size, fun i hi _ => h.block i hi⟩
theorem Kept.set {X : List Nat} (W : World) {p : Addr} (v : Value) (hp : p.block ∈ X) : Kept X W (W.setCell p v) :=
  ⟨rfl, rfl, rfl, by simp [World.setCell], fun k _ hx => Below.heap_setCell W p v k (fun e => hx (e ▸ hp))⟩
theorem Kept.cell {X : List Nat} {W W' : World} (h : Kept X W W') {p : Addr} {v : Value} (hc : W.cell? p = some v) (hx : p.block ∉ X) : W'.cell? p = some v :=
  (World.cell?_of_block (w := W) (h.same p.block (World.block_lt_of_cell? W p hc) hx)).trans hc
theorem Kept.below {X : List Nat} {W W' : World} (h : Kept X W W') {n : Nat} (hn : n ≤ W.heap.size) (hx : ∀ k ∈ X, n ≤ k) : Below n W W' :=
  ⟨h.os, h.tape, h.output, h.size, fun k hk => h.same k (by omega) (fun e => by have := hx k e; omega)⟩

/-- The choices. -/
structure Ch where
  fr : Nat
  re : Nat
  id : Nat
  bd : Nat
  cl : Int
  mg : Bool

/-- The choices lie in block L, the steps in block S. -/
structure St (W : World) (L S : Nat) (c : Ch) (s : Int) : Prop where
  l0 : W.cell? ⟨L, 0, none⟩ = some (.int .i64 c.fr)
  l1 : W.cell? ⟨L, 1, none⟩ = some (.int .i64 c.re)
  l2 : W.cell? ⟨L, 2, none⟩ = some (.int .i64 c.id)
  l3 : W.cell? ⟨L, 3, none⟩ = some (.int .i64 c.bd)
  l4 : W.cell? ⟨L, 4, none⟩ = some (.int .i64 c.cl)
  l5 : W.cell? ⟨L, 5, none⟩ = some (.bool c.mg)
  s0 : W.cell? ⟨S, 0, none⟩ = some (.int .i64 s)
  z1 : W.frozen? ⟨L, 1, none⟩ = false
  z2 : W.frozen? ⟨L, 2, none⟩ = false
  z5 : W.frozen? ⟨L, 5, none⟩ = false
  zs : W.frozen? ⟨S, 0, none⟩ = false
  ne : L ≠ S

theorem St.keep {W W' : World} {L S : Nat} {c : Ch} {s : Int} (h : St W L S c s) (hB : Below W.heap.size W W') : St W' L S c s := by
  have hL := World.block_lt_of_cell? W _ h.l0
  have hS := World.block_lt_of_cell? W _ h.s0
  exact ⟨cell_keep hB h.l0, cell_keep hB h.l1, cell_keep hB h.l2, cell_keep hB h.l3, cell_keep hB h.l4, cell_keep hB h.l5, cell_keep hB h.s0,
    (hB.frozen (p := ⟨L, 1, none⟩) hL).trans h.z1, (hB.frozen (p := ⟨L, 2, none⟩) hL).trans h.z2, (hB.frozen (p := ⟨L, 5, none⟩) hL).trans h.z5, (hB.frozen (p := ⟨S, 0, none⟩) hS).trans h.zs, h.ne⟩
theorem set_far {W : World} {p q : Addr} {v u : Value} (h : W.cell? q = some u) (hne : p ≠ q) : (W.setCell p v).cell? q = some u := (World.cell?_setCell_other _ _ _ _ hne).trans h
theorem St.setS {W : World} {L S : Nat} {c : Ch} {s : Int} (h : St W L S c s) (s' : Int) : St (W.setCell ⟨S, 0, none⟩ (.int .i64 s')) L S c s' := by
  have hne := h.ne
  have hn : ∀ k, (⟨S, 0, none⟩ : Addr) ≠ ⟨L, k, none⟩ := fun k e => hne (by cases e; rfl)
  exact ⟨set_far h.l0 (hn _), set_far h.l1 (hn _), set_far h.l2 (hn _), set_far h.l3 (hn _), set_far h.l4 (hn _), set_far h.l5 (hn _), World.cell?_setCell_same _ _ _ h.s0, by simpa using h.z1, by simpa using h.z2, by simpa using h.z5, by simpa using h.zs, hne⟩
theorem St.setRe {W : World} {L S : Nat} {c : Ch} {s : Int} (h : St W L S c s) (k : Nat) : St (W.setCell ⟨L, 1, none⟩ (.int .i64 k)) L S { c with re := k } s := by
  have hne := h.ne
  exact ⟨set_far h.l0 (by simp), World.cell?_setCell_same _ _ _ h.l1, set_far h.l2 (by simp), set_far h.l3 (by simp), set_far h.l4 (by simp), set_far h.l5 (by simp), set_far h.s0 (by intro e; cases e), by simpa using h.z1, by simpa using h.z2, by simpa using h.z5, by simpa using h.zs, hne⟩
theorem St.setId {W : World} {L S : Nat} {c : Ch} {s : Int} (h : St W L S c s) (k : Nat) : St (W.setCell ⟨L, 2, none⟩ (.int .i64 k)) L S { c with id := k } s := by
  have hne := h.ne
  exact ⟨set_far h.l0 (by simp), set_far h.l1 (by simp), World.cell?_setCell_same _ _ _ h.l2, set_far h.l3 (by simp), set_far h.l4 (by simp), set_far h.l5 (by simp), set_far h.s0 (by intro e; cases e), by simpa using h.z1, by simpa using h.z2, by simpa using h.z5, by simpa using h.zs, hne⟩
theorem St.setMg {W : World} {L S : Nat} {c : Ch} {s : Int} (h : St W L S c s) (b : Bool) : St (W.setCell ⟨L, 5, none⟩ (.bool b)) L S { c with mg := b } s := by
  have hne := h.ne
  exact ⟨set_far h.l0 (by simp), set_far h.l1 (by simp), set_far h.l2 (by simp), set_far h.l3 (by simp), set_far h.l4 (by simp), World.cell?_setCell_same _ _ _ h.l5, set_far h.s0 (by intro e; cases e), by simpa using h.z1, by simpa using h.z2, by simpa using h.z5, by simpa using h.zs, hne⟩

/-- The boxes are none of the assignment's own blocks. -/
def Dis (A : Nat) (D : AD) (L : Nat) : Prop := ∀ k ∈ [L, D.S], k ∉ [A, D.gw, D.gc, D.gf, D.gr, D.t1, D.t2, D.t3, D.gd, D.gl]
theorem Asg.kept {W W' : World} {A : Nat} {D : AD} {L : Nat} (h : Asg W A D) (hd : Dis A D L) (hk : Kept [L, D.S] W W') : Asg W' A D :=
  h.of fun p _ hc hp => hk.cell hc (fun e => hd p.block e hp)

/-- What next answers, and what it leaves. -/
def nextF (D : AD) (c : Ch) (s : Int) : Int × Ch × Int :=
  if s ≤ 0 then (-1, c, -1)
  else if c.fr < c.re ∧ 0 ≤ lst D.N2 D.p2 c.fr c.bd c.re then (lst D.N2 D.p2 c.fr c.bd c.re, { c with re := (lst D.N2 D.p2 c.fr c.bd c.re).toNat }, s - 1)
  else if 0 ≤ lst D.N3 D.p3 c.fr 0 c.id ∧ D.call (lst D.N3 D.p3 c.fr 0 c.id).toNat ≤ c.cl then
    (lst D.N3 D.p3 c.fr 0 c.id, { fr := c.fr, re := if c.fr < c.re then c.fr else c.re, id := c.fr, bd := c.bd, cl := c.cl, mg := true }, s - 1)
  else (lst D.N3 D.p3 c.fr 0 c.id, { fr := c.fr, re := if c.fr < c.re then c.fr else c.re, id := max (lst D.N3 D.p3 c.fr 0 c.id).toNat c.fr, bd := c.bd, cl := c.cl, mg := c.mg }, s - 1)

set_option maxHeartbeats 4000000 in
theorem next_fn (A : Nat) (D : AD) (L : Nat) (c : Ch) (s : Int) (w : World) (h : Asg w A D) (ok : D.Ok) (st : St w L D.S c s) (hd : Dis A D L) (h1 : c.fr ≤ D.n) (h2 : c.re ≤ D.n) (h3 : c.id ≤ D.n) (hsb : s ≤ 9223372036854775807) :
    Calls Try.prog 35 #[.pointer (some ⟨A, 0, none⟩), .pointer (some ⟨L, 0, none⟩)] w fun e w' =>
      e = .returned (.int .i64 (nextF D c s).1) ∧ St w' L D.S (nextF D c s).2.1 (nextF D c s).2.2 ∧ Kept [L, D.S] w w' := by
  unfold nextF
  have hn := ok.hn
  have a15 := h.c15
  have s0 := st.s0
  have zs := st.zs
  by_cases hs0 : s ≤ 0
  · rw [if_pos hs0]
    have ST : Hid _ := st
    have KP : Hid (Kept [L, D.S] w (w.setCell ⟨D.S, 0, none⟩ (.int .i64 (-1)))) := Kept.set w _ (by simp)
    clear h ok st
    go_enter Try.func35, Try.ntmps35
    go_wp2_with fail
    go_returns
    exact ⟨rfl, ST.out.setS (-1), KP.out⟩
  · rw [if_neg hs0]
    have kp1 : Kept [L, D.S] w (w.setCell ⟨D.S, 0, none⟩ (.int .i64 (s - 1))) := Kept.set w _ (by simp)
    have as1 := h.kept hd kp1
    have st1 := st.setS (s - 1)
    have L2 := lst_spec D.N2 D.p2 c.fr c.bd c.re
    have L3 := lst_spec D.N3 D.p3 c.fr 0 c.id
    have k1 : ∀ w', IntsF w' D.t2 (2 * D.p2) D.N2 → Calls Try.prog 30 #[.agg #[.int .i64 D.p2, .slice (some ⟨D.t2, 0, none⟩) (2 * D.p2) D.k2], .int .i64 c.fr, .int .i64 c.re, .int .i64 c.bd] w' fun e w'' => e = .returned (.int .i64 (lst D.N2 D.p2 c.fr c.bd c.re)) ∧ Below w'.heap.size w' w'' :=
      fun w' hw => last_fn D.t2 D.p2 D.k2 c.fr c.re D.N2 c.bd w' hw ok.tr2 ok.hp2 (by have := ok.hn2; omega) (by omega)
    have k2 : ∀ w', IntsF w' D.t3 (2 * D.p3) D.N3 → Calls Try.prog 30 #[.agg #[.int .i64 D.p3, .slice (some ⟨D.t3, 0, none⟩) (2 * D.p3) D.k3], .int .i64 c.fr, .int .i64 c.id, .int .i64 0] w' fun e w'' => e = .returned (.int .i64 (lst D.N3 D.p3 c.fr 0 c.id)) ∧ Below w'.heap.size w' w'' :=
      fun w' hw => last_fn D.t3 D.p3 D.k3 c.fr c.id D.N3 0 w' hw ok.tr3 ok.hp3 (by have := ok.hn3; omega) (by omega)
    generalize lst D.N2 D.p2 c.fr c.bd c.re = i at *
    generalize lst D.N3 D.p3 c.fr 0 c.id = j at *
    have K1 : Hid _ := k1
    have K2 : Hid _ := k2
    have HD : Hid _ := hd
    clear h ok st hd k1 k2
    have hi : i = -1 ∨ ∃ q : Nat, i = q ∧ c.fr ≤ q ∧ q < c.re := by
      rcases L2 with ⟨e, _⟩ | ⟨q, e, e1, e2, _⟩
      · exact .inl e
      · exact .inr ⟨q, e, e1, e2⟩
    have hj : j = -1 ∨ ∃ q : Nat, j = q ∧ c.fr ≤ q ∧ q < c.id := by
      rcases L3 with ⟨e, _⟩ | ⟨q, e, e1, e2, _⟩
      · exact .inl e
      · exact .inr ⟨q, e, e1, e2⟩
    clear L2 L3
    by_cases hre : c.fr < c.re
    · rcases hi with rfl | ⟨q, rfl, hq1, hq2⟩
      · rw [if_neg (by omega)]
        rcases hj with rfl | ⟨q, rfl, hq1, hq2⟩
        · rw [if_neg (by omega), if_pos hre]
          rw [show max (-1 : Int).toNat c.fr = c.fr from by simp]
          go_enter Try.func35, Try.ntmps35
          go_wp2_with fail
          generalize (w.setCell ⟨D.S, 0, none⟩ (.int .i64 (s - 1))) = W1 at *
          clear a15 s0 zs
          have ne1 : Nonempty (BW W1) := ⟨⟨W1, Below.refl _ _⟩⟩
          have x0 := BW.cell st1.l0
          have x1 := BW.cell st1.l1
          refine region_bw (by kernel_rfl) (by kernel_rfl) ?_
          repeat (go_big_quiet_step (fail))
          refine wpQuiet_nil ?_
          rintro W2 ⟨⟨_, B2⟩, rfl⟩
          have as2 := as1.keep B2
          have st2 := st1.keep B2
          have kp2 := kp1.trans (Kept.of B2)
          clear x0 x1 as1 st1 kp1 B2 ne1
          go_wp2_with fail
          have ne2 : Nonempty (BW W2) := ⟨⟨W2, Below.refl _ _⟩⟩
          have x0 := BW.cell st2.l0
          have x1 := BW.cell st2.l1
          have x3 := BW.cell st2.l3
          have y9 := BW.cell as2.c9
          have y10 := BW.cell as2.c10
          refine region_bw (by kernel_rfl) (by kernel_rfl) ?_
          repeat (go_big_quiet_step (with_reducible exact Calls.bw (K1.out _ (as2.i2.keep (BW.ok _)))))
          refine wpQuiet_nil ?_
          rintro W3 ⟨⟨_, B3⟩, rfl⟩
          have as3 := as2.keep B3
          have st3 := st2.keep B3
          have kp3 := kp2.trans (Kept.of B3)
          have l1 := st3.l1
          have z1 := st3.z1
          have l0 := st3.l0
          clear x0 x1 x3 y9 y10 as2 st2 kp2 B3 ne2
          go_wp2_with fail
          have st4 := st3.setRe c.fr
          have kp4' := Kept.set W3 (X := [L, D.S]) (p := ⟨L, 1, none⟩) (.int .i64 c.fr) (by simp)
          have as4 := as3.kept HD.out kp4'
          have kp4 := kp3.trans kp4'
          clear as3 st3 kp3 kp4' l0 l1 z1
          generalize (W3.setCell ⟨L, 1, none⟩ (.int .i64 c.fr)) = W4 at *
          have ne4 : Nonempty (BW W4) := ⟨⟨W4, Below.refl _ _⟩⟩
          have x0 := BW.cell st4.l0
          have x2 := BW.cell st4.l2
          have y11 := BW.cell as4.c11
          have y12 := BW.cell as4.c12
          refine region_bw (by kernel_rfl) (by kernel_rfl) ?_
          repeat (go_big_quiet_step (with_reducible exact Calls.bw (K2.out _ (as4.i3.keep (BW.ok _)))))
          refine wpQuiet_nil ?_
          rintro W5 ⟨⟨_, B5⟩, rfl⟩
          have as5 := as4.keep B5
          have st5 := st4.keep B5
          have kp5 := kp4.trans (Kept.of B5)
          have l0 := st5.l0
          have l2 := st5.l2
          have z2 := st5.z2
          clear x0 x2 y11 y12 as4 st4 kp4 B5 ne4
          go_wp2_with fail
          have st6 := st5.setId c.fr
          have kp6 := kp5.trans (Kept.set W5 (X := [L, D.S]) (p := ⟨L, 2, none⟩) (.int .i64 c.fr) (by simp))
          clear l0 l2 z2 as5
          generalize (W5.setCell ⟨L, 2, none⟩ (.int .i64 c.fr)) = W6 at *
          go_quiet (fail)
          go_wp2_with fail
          go_returns
          exact ⟨rfl, (st6.keep (belowN (Below.refl _ _) _)), kp6.trans (Kept.of (belowN (Below.refl _ _) _))⟩

        · rw [show ((q : Int)).toNat = q from rfl]
          by_cases hcl : D.call q ≤ c.cl
          · rw [if_pos ⟨by omega, hcl⟩, if_pos hre]
            have hdl : decide (D.call q ≤ c.cl) = true := by simpa using hcl
            go_enter Try.func35, Try.ntmps35
            go_wp2_with fail
            generalize (w.setCell ⟨D.S, 0, none⟩ (.int .i64 (s - 1))) = W1 at *
            clear a15 s0 zs
            have ne1 : Nonempty (BW W1) := ⟨⟨W1, Below.refl _ _⟩⟩
            have x0 := BW.cell st1.l0
            have x1 := BW.cell st1.l1
            refine region_bw (by kernel_rfl) (by kernel_rfl) ?_
            repeat (go_big_quiet_step (fail))
            refine wpQuiet_nil ?_
            rintro W2 ⟨⟨_, B2⟩, rfl⟩
            have as2 := as1.keep B2
            have st2 := st1.keep B2
            have kp2 := kp1.trans (Kept.of B2)
            clear x0 x1 as1 st1 kp1 B2 ne1
            go_wp2_with fail
            have ne2 : Nonempty (BW W2) := ⟨⟨W2, Below.refl _ _⟩⟩
            have x0 := BW.cell st2.l0
            have x1 := BW.cell st2.l1
            have x3 := BW.cell st2.l3
            have y9 := BW.cell as2.c9
            have y10 := BW.cell as2.c10
            refine region_bw (by kernel_rfl) (by kernel_rfl) ?_
            repeat (go_big_quiet_step (with_reducible exact Calls.bw (K1.out _ (as2.i2.keep (BW.ok _)))))
            refine wpQuiet_nil ?_
            rintro W3 ⟨⟨_, B3⟩, rfl⟩
            have as3 := as2.keep B3
            have st3 := st2.keep B3
            have kp3 := kp2.trans (Kept.of B3)
            have l1 := st3.l1
            have z1 := st3.z1
            have l0 := st3.l0
            clear x0 x1 x3 y9 y10 as2 st2 kp2 B3 ne2
            go_wp2_with fail
            have st4 := st3.setRe c.fr
            have kp4' := Kept.set W3 (X := [L, D.S]) (p := ⟨L, 1, none⟩) (.int .i64 c.fr) (by simp)
            have as4 := as3.kept HD.out kp4'
            have kp4 := kp3.trans kp4'
            clear as3 st3 kp3 kp4' l0 l1 z1
            generalize (W3.setCell ⟨L, 1, none⟩ (.int .i64 c.fr)) = W4 at *
            have ne4 : Nonempty (BW W4) := ⟨⟨W4, Below.refl _ _⟩⟩
            have x0 := BW.cell st4.l0
            have x2 := BW.cell st4.l2
            have y11 := BW.cell as4.c11
            have y12 := BW.cell as4.c12
            refine region_bw (by kernel_rfl) (by kernel_rfl) ?_
            repeat (go_big_quiet_step (with_reducible exact Calls.bw (K2.out _ (as4.i3.keep (BW.ok _)))))
            refine wpQuiet_nil ?_
            rintro W5 ⟨⟨_, B5⟩, rfl⟩
            have as5 := as4.keep B5
            have st5 := st4.keep B5
            have kp5 := kp4.trans (Kept.of B5)
            have l0 := st5.l0
            have l2 := st5.l2
            have z2 := st5.z2
            clear x0 x2 y11 y12 as4 st4 kp4 B5 ne4
            have hm : ((q : Int) < c.fr) = False := by simp; omega
            go_wp2_with fail
            have st6 := st5.setId q
            have kp6' := Kept.set W5 (X := [L, D.S]) (p := ⟨L, 2, none⟩) (.int .i64 q) (by simp)
            have as6 := as5.kept HD.out kp6'
            have kp6 := kp5.trans kp6'
            clear l0 l2 z2 as5 kp6' hm
            generalize (W5.setCell ⟨L, 2, none⟩ (.int .i64 q)) = W6 at *
            have b0 := as6.c0
            have b2 := as6.w2 q (by omega)
            have b4 := st6.l4
            have hq0 : (0 : Int) ≤ (q : Int) := by omega
            have hqn : (q : Int) < (D.n : Int) := by omega
            go_quiet (fail)
            have st7 := st6.keep (belowN (Below.refl _ _) nq)
            have kp7 := kp6.trans (Kept.of (belowN (Below.refl _ _) nq))
            clear st6 kp6 as6 b0 b2 b4
            generalize W6.drewN nq = W7 at *
            have l0 := st7.l0
            have l2 := st7.l2
            have z2 := st7.z2
            have l5 := set_far (v := .int .i64 c.fr) st7.l5 (p := ⟨L, 2, none⟩) (by simp)
            have z5 := st7.z5
            go_wp2_with fail
            go_returns
            exact ⟨rfl, (st7.setId c.fr).setMg true, (kp7.trans (Kept.set W7 (X := [L, D.S]) (p := ⟨L, 2, none⟩) (.int .i64 c.fr) (by simp))).trans (Kept.set _ (X := [L, D.S]) (p := ⟨L, 5, none⟩) (.bool true) (by simp))⟩

          · rw [if_neg (by omega), if_pos hre]
            rw [show max q c.fr = q from by omega]
            have hdl : decide (D.call q ≤ c.cl) = false := by simpa using hcl
            go_enter Try.func35, Try.ntmps35
            go_wp2_with fail
            generalize (w.setCell ⟨D.S, 0, none⟩ (.int .i64 (s - 1))) = W1 at *
            clear a15 s0 zs
            have ne1 : Nonempty (BW W1) := ⟨⟨W1, Below.refl _ _⟩⟩
            have x0 := BW.cell st1.l0
            have x1 := BW.cell st1.l1
            refine region_bw (by kernel_rfl) (by kernel_rfl) ?_
            repeat (go_big_quiet_step (fail))
            refine wpQuiet_nil ?_
            rintro W2 ⟨⟨_, B2⟩, rfl⟩
            have as2 := as1.keep B2
            have st2 := st1.keep B2
            have kp2 := kp1.trans (Kept.of B2)
            clear x0 x1 as1 st1 kp1 B2 ne1
            go_wp2_with fail
            have ne2 : Nonempty (BW W2) := ⟨⟨W2, Below.refl _ _⟩⟩
            have x0 := BW.cell st2.l0
            have x1 := BW.cell st2.l1
            have x3 := BW.cell st2.l3
            have y9 := BW.cell as2.c9
            have y10 := BW.cell as2.c10
            refine region_bw (by kernel_rfl) (by kernel_rfl) ?_
            repeat (go_big_quiet_step (with_reducible exact Calls.bw (K1.out _ (as2.i2.keep (BW.ok _)))))
            refine wpQuiet_nil ?_
            rintro W3 ⟨⟨_, B3⟩, rfl⟩
            have as3 := as2.keep B3
            have st3 := st2.keep B3
            have kp3 := kp2.trans (Kept.of B3)
            have l1 := st3.l1
            have z1 := st3.z1
            have l0 := st3.l0
            clear x0 x1 x3 y9 y10 as2 st2 kp2 B3 ne2
            go_wp2_with fail
            have st4 := st3.setRe c.fr
            have kp4' := Kept.set W3 (X := [L, D.S]) (p := ⟨L, 1, none⟩) (.int .i64 c.fr) (by simp)
            have as4 := as3.kept HD.out kp4'
            have kp4 := kp3.trans kp4'
            clear as3 st3 kp3 kp4' l0 l1 z1
            generalize (W3.setCell ⟨L, 1, none⟩ (.int .i64 c.fr)) = W4 at *
            have ne4 : Nonempty (BW W4) := ⟨⟨W4, Below.refl _ _⟩⟩
            have x0 := BW.cell st4.l0
            have x2 := BW.cell st4.l2
            have y11 := BW.cell as4.c11
            have y12 := BW.cell as4.c12
            refine region_bw (by kernel_rfl) (by kernel_rfl) ?_
            repeat (go_big_quiet_step (with_reducible exact Calls.bw (K2.out _ (as4.i3.keep (BW.ok _)))))
            refine wpQuiet_nil ?_
            rintro W5 ⟨⟨_, B5⟩, rfl⟩
            have as5 := as4.keep B5
            have st5 := st4.keep B5
            have kp5 := kp4.trans (Kept.of B5)
            have l0 := st5.l0
            have l2 := st5.l2
            have z2 := st5.z2
            clear x0 x2 y11 y12 as4 st4 kp4 B5 ne4
            have hm : ((q : Int) < c.fr) = False := by simp; omega
            go_wp2_with fail
            have st6 := st5.setId q
            have kp6' := Kept.set W5 (X := [L, D.S]) (p := ⟨L, 2, none⟩) (.int .i64 q) (by simp)
            have as6 := as5.kept HD.out kp6'
            have kp6 := kp5.trans kp6'
            clear l0 l2 z2 as5 kp6' hm
            generalize (W5.setCell ⟨L, 2, none⟩ (.int .i64 q)) = W6 at *
            have b0 := as6.c0
            have b2 := as6.w2 q (by omega)
            have b4 := st6.l4
            have hq0 : (0 : Int) ≤ (q : Int) := by omega
            have hqn : (q : Int) < (D.n : Int) := by omega
            go_quiet (fail)
            go_wp2_with fail
            go_returns
            exact ⟨rfl, (st6.keep (belowN (Below.refl _ _) _)), kp6.trans (Kept.of (belowN (Below.refl _ _) _))⟩

      · rw [if_pos ⟨hre, by omega⟩]
        go_enter Try.func35, Try.ntmps35
        go_wp2_with fail
        generalize (w.setCell ⟨D.S, 0, none⟩ (.int .i64 (s - 1))) = W1 at *
        clear a15 s0 zs
        have ne1 : Nonempty (BW W1) := ⟨⟨W1, Below.refl _ _⟩⟩
        have x0 := BW.cell st1.l0
        have x1 := BW.cell st1.l1
        refine region_bw (by kernel_rfl) (by kernel_rfl) ?_
        repeat (go_big_quiet_step (fail))
        refine wpQuiet_nil ?_
        rintro W2 ⟨⟨_, B2⟩, rfl⟩
        have as2 := as1.keep B2
        have st2 := st1.keep B2
        have kp2 := kp1.trans (Kept.of B2)
        clear x0 x1 as1 st1 kp1 B2 ne1
        go_wp2_with fail
        have ne2 : Nonempty (BW W2) := ⟨⟨W2, Below.refl _ _⟩⟩
        have x0 := BW.cell st2.l0
        have x1 := BW.cell st2.l1
        have x3 := BW.cell st2.l3
        have y9 := BW.cell as2.c9
        have y10 := BW.cell as2.c10
        refine region_bw (by kernel_rfl) (by kernel_rfl) ?_
        repeat (go_big_quiet_step (with_reducible exact Calls.bw (K1.out _ (as2.i2.keep (BW.ok _)))))
        refine wpQuiet_nil ?_
        rintro W3 ⟨⟨_, B3⟩, rfl⟩
        have as3 := as2.keep B3
        have st3 := st2.keep B3
        have kp3 := kp2.trans (Kept.of B3)
        have l1 := st3.l1
        have z1 := st3.z1
        have l0 := st3.l0
        clear x0 x1 x3 y9 y10 as2 st2 kp2 B3 ne2
        go_wp2_with fail
        go_returns
        exact ⟨rfl, st3.setRe q, kp3.trans (Kept.set W3 (X := [L, D.S]) (p := ⟨L, 1, none⟩) (.int .i64 q) (by simp))⟩
    · rw [if_neg (by omega)]
      rcases hj with rfl | ⟨q, rfl, hq1, hq2⟩
      · rw [if_neg (by omega), if_neg hre]
        rw [show max (-1 : Int).toNat c.fr = c.fr from by simp]
        go_enter Try.func35, Try.ntmps35
        go_wp2_with fail
        generalize (w.setCell ⟨D.S, 0, none⟩ (.int .i64 (s - 1))) = W1 at *
        clear a15 s0 zs
        have ne1 : Nonempty (BW W1) := ⟨⟨W1, Below.refl _ _⟩⟩
        have x0 := BW.cell st1.l0
        have x1 := BW.cell st1.l1
        refine region_bw (by kernel_rfl) (by kernel_rfl) ?_
        repeat (go_big_quiet_step (fail))
        refine wpQuiet_nil ?_
        rintro W4 ⟨⟨_, B2⟩, rfl⟩
        have as4 := as1.keep B2
        have st4 := st1.keep B2
        have kp4 := kp1.trans (Kept.of B2)
        clear x0 x1 as1 st1 kp1 B2 ne1
        go_wp2_with fail
        have ne4 : Nonempty (BW W4) := ⟨⟨W4, Below.refl _ _⟩⟩
        have x0 := BW.cell st4.l0
        have x2 := BW.cell st4.l2
        have y11 := BW.cell as4.c11
        have y12 := BW.cell as4.c12
        refine region_bw (by kernel_rfl) (by kernel_rfl) ?_
        repeat (go_big_quiet_step (with_reducible exact Calls.bw (K2.out _ (as4.i3.keep (BW.ok _)))))
        refine wpQuiet_nil ?_
        rintro W5 ⟨⟨_, B5⟩, rfl⟩
        have as5 := as4.keep B5
        have st5 := st4.keep B5
        have kp5 := kp4.trans (Kept.of B5)
        have l0 := st5.l0
        have l2 := st5.l2
        have z2 := st5.z2
        clear x0 x2 y11 y12 as4 st4 kp4 B5 ne4
        go_wp2_with fail
        have st6 := st5.setId c.fr
        have kp6 := kp5.trans (Kept.set W5 (X := [L, D.S]) (p := ⟨L, 2, none⟩) (.int .i64 c.fr) (by simp))
        clear l0 l2 z2 as5
        generalize (W5.setCell ⟨L, 2, none⟩ (.int .i64 c.fr)) = W6 at *
        go_quiet (fail)
        go_wp2_with fail
        go_returns
        exact ⟨rfl, (st6.keep (belowN (Below.refl _ _) _)), kp6.trans (Kept.of (belowN (Below.refl _ _) _))⟩

      · rw [show ((q : Int)).toNat = q from rfl]
        by_cases hcl : D.call q ≤ c.cl
        · rw [if_pos ⟨by omega, hcl⟩, if_neg hre]
          have hdl : decide (D.call q ≤ c.cl) = true := by simpa using hcl
          go_enter Try.func35, Try.ntmps35
          go_wp2_with fail
          generalize (w.setCell ⟨D.S, 0, none⟩ (.int .i64 (s - 1))) = W1 at *
          clear a15 s0 zs
          have ne1 : Nonempty (BW W1) := ⟨⟨W1, Below.refl _ _⟩⟩
          have x0 := BW.cell st1.l0
          have x1 := BW.cell st1.l1
          refine region_bw (by kernel_rfl) (by kernel_rfl) ?_
          repeat (go_big_quiet_step (fail))
          refine wpQuiet_nil ?_
          rintro W4 ⟨⟨_, B2⟩, rfl⟩
          have as4 := as1.keep B2
          have st4 := st1.keep B2
          have kp4 := kp1.trans (Kept.of B2)
          clear x0 x1 as1 st1 kp1 B2 ne1
          go_wp2_with fail
          have ne4 : Nonempty (BW W4) := ⟨⟨W4, Below.refl _ _⟩⟩
          have x0 := BW.cell st4.l0
          have x2 := BW.cell st4.l2
          have y11 := BW.cell as4.c11
          have y12 := BW.cell as4.c12
          refine region_bw (by kernel_rfl) (by kernel_rfl) ?_
          repeat (go_big_quiet_step (with_reducible exact Calls.bw (K2.out _ (as4.i3.keep (BW.ok _)))))
          refine wpQuiet_nil ?_
          rintro W5 ⟨⟨_, B5⟩, rfl⟩
          have as5 := as4.keep B5
          have st5 := st4.keep B5
          have kp5 := kp4.trans (Kept.of B5)
          have l0 := st5.l0
          have l2 := st5.l2
          have z2 := st5.z2
          clear x0 x2 y11 y12 as4 st4 kp4 B5 ne4
          have hm : ((q : Int) < c.fr) = False := by simp; omega
          go_wp2_with fail
          have st6 := st5.setId q
          have kp6' := Kept.set W5 (X := [L, D.S]) (p := ⟨L, 2, none⟩) (.int .i64 q) (by simp)
          have as6 := as5.kept HD.out kp6'
          have kp6 := kp5.trans kp6'
          clear l0 l2 z2 as5 kp6' hm
          generalize (W5.setCell ⟨L, 2, none⟩ (.int .i64 q)) = W6 at *
          have b0 := as6.c0
          have b2 := as6.w2 q (by omega)
          have b4 := st6.l4
          have hq0 : (0 : Int) ≤ (q : Int) := by omega
          have hqn : (q : Int) < (D.n : Int) := by omega
          go_quiet (fail)
          have st7 := st6.keep (belowN (Below.refl _ _) nq)
          have kp7 := kp6.trans (Kept.of (belowN (Below.refl _ _) nq))
          clear st6 kp6 as6 b0 b2 b4
          generalize W6.drewN nq = W7 at *
          have l0 := st7.l0
          have l2 := st7.l2
          have z2 := st7.z2
          have l5 := set_far (v := .int .i64 c.fr) st7.l5 (p := ⟨L, 2, none⟩) (by simp)
          have z5 := st7.z5
          go_wp2_with fail
          go_returns
          exact ⟨rfl, (st7.setId c.fr).setMg true, (kp7.trans (Kept.set W7 (X := [L, D.S]) (p := ⟨L, 2, none⟩) (.int .i64 c.fr) (by simp))).trans (Kept.set _ (X := [L, D.S]) (p := ⟨L, 5, none⟩) (.bool true) (by simp))⟩

        · rw [if_neg (by omega), if_neg hre]
          rw [show max q c.fr = q from by omega]
          have hdl : decide (D.call q ≤ c.cl) = false := by simpa using hcl
          go_enter Try.func35, Try.ntmps35
          go_wp2_with fail
          generalize (w.setCell ⟨D.S, 0, none⟩ (.int .i64 (s - 1))) = W1 at *
          clear a15 s0 zs
          have ne1 : Nonempty (BW W1) := ⟨⟨W1, Below.refl _ _⟩⟩
          have x0 := BW.cell st1.l0
          have x1 := BW.cell st1.l1
          refine region_bw (by kernel_rfl) (by kernel_rfl) ?_
          repeat (go_big_quiet_step (fail))
          refine wpQuiet_nil ?_
          rintro W4 ⟨⟨_, B2⟩, rfl⟩
          have as4 := as1.keep B2
          have st4 := st1.keep B2
          have kp4 := kp1.trans (Kept.of B2)
          clear x0 x1 as1 st1 kp1 B2 ne1
          go_wp2_with fail
          have ne4 : Nonempty (BW W4) := ⟨⟨W4, Below.refl _ _⟩⟩
          have x0 := BW.cell st4.l0
          have x2 := BW.cell st4.l2
          have y11 := BW.cell as4.c11
          have y12 := BW.cell as4.c12
          refine region_bw (by kernel_rfl) (by kernel_rfl) ?_
          repeat (go_big_quiet_step (with_reducible exact Calls.bw (K2.out _ (as4.i3.keep (BW.ok _)))))
          refine wpQuiet_nil ?_
          rintro W5 ⟨⟨_, B5⟩, rfl⟩
          have as5 := as4.keep B5
          have st5 := st4.keep B5
          have kp5 := kp4.trans (Kept.of B5)
          have l0 := st5.l0
          have l2 := st5.l2
          have z2 := st5.z2
          clear x0 x2 y11 y12 as4 st4 kp4 B5 ne4
          have hm : ((q : Int) < c.fr) = False := by simp; omega
          go_wp2_with fail
          have st6 := st5.setId q
          have kp6' := Kept.set W5 (X := [L, D.S]) (p := ⟨L, 2, none⟩) (.int .i64 q) (by simp)
          have as6 := as5.kept HD.out kp6'
          have kp6 := kp5.trans kp6'
          clear l0 l2 z2 as5 kp6' hm
          generalize (W5.setCell ⟨L, 2, none⟩ (.int .i64 q)) = W6 at *
          have b0 := as6.c0
          have b2 := as6.w2 q (by omega)
          have b4 := st6.l4
          have hq0 : (0 : Int) ≤ (q : Int) := by omega
          have hqn : (q : Int) < (D.n : Int) := by omega
          go_quiet (fail)
          go_wp2_with fail
          go_returns
          exact ⟨rfl, (st6.keep (belowN (Below.refl _ _) _)), kp6.trans (Kept.of (belowN (Below.refl _ _) _))⟩


end Go.Proofs.Qxb6609392a
