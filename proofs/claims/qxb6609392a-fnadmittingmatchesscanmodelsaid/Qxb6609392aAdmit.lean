/-
  admitting: how many writes, up to two, the read can go to.
-/
import Derived.Test.Qxb6609392aChoice
namespace Go.Proofs.Qxb6609392a
open Go.RowKit

theorem offerN_ok {D : AD} {rc rr : Int} : ∀ (k : Nat) {c : Ch} {s : Int}, c.Ok D → (offerN D rc rr k c s).2.1.Ok D ∧ (offerN D rc rr k c s).1 < D.n ∧ (offerN D rc rr k c s).2.2 ≤ max s (-1) ∧ (offerN D rc rr k c s).2.1.fr = c.fr ∧ (offerN D rc rr k c s).2.1.cl = c.cl
  | 0, c, s, h => ⟨h, by show (-1 : Int) < _; omega, by show s ≤ _; omega, rfl, rfl⟩
  | k + 1, c, s, h => by
    have nk := nextF_ok (s := s) h
    unfold offerN
    split
    · exact ⟨nk.1, by show (-1 : Int) < _; omega, nk.2.2.1, nk.2.2.2.2.2, nk.2.2.2.2.1⟩
    · split
      · exact ⟨nk.1, nk.2.1, nk.2.2.1, nk.2.2.2.2.2, nk.2.2.2.2.1⟩
      · have ih := offerN_ok (rc := rc) (rr := rr) k (s := (nextF D c s).2.2) nk.1
        exact ⟨ih.1, ih.2.1, by have := ih.2.2.1; have := nk.2.2.1; omega, ih.2.2.2.1.trans nk.2.2.2.2.2, ih.2.2.2.2.trans nk.2.2.2.2.1⟩

/-- What admitting answers: the count, the first write, the steps left. -/
def admitF (D : AD) (rc rr : Int) (c : Ch) (s : Int) : Int × Int × Int :=
  if (offerF D rc rr c s).1 < 0 then (0, -1, (offerF D rc rr c s).2.2)
  else if (offerF D rc rr c s).2.1.mg = true ∧ 0 ≤ lst D.N3 D.p3 c.fr 0 (offerF D rc rr c s).1.toNat then (2, (offerF D rc rr c s).1, (offerF D rc rr c s).2.2)
  else if 0 ≤ (offerF D rc rr (offerF D rc rr c s).2.1 (offerF D rc rr c s).2.2).1 then (2, (offerF D rc rr c s).1, (offerF D rc rr (offerF D rc rr c s).2.1 (offerF D rc rr c s).2.2).2.2)
  else (1, (offerF D rc rr c s).1, (offerF D rc rr (offerF D rc rr c s).2.1 (offerF D rc rr c s).2.2).2.2)

theorem Kept.drop {X : List Nat} {n : Nat} {W W1 W2 : World} (h : Below W.heap.size W W1) (k : Kept (n :: X) W1 W2) (hn : W.heap.size ≤ n) : Kept X W W2 :=
  ⟨k.os.trans h.os, k.tape.trans h.tape, k.output.trans h.output, Nat.le_trans h.size k.size, fun i hi hx => by
    have e : i ∉ n :: X := by simp; exact ⟨by omega, hx⟩
    exact (k.same i (Nat.lt_of_lt_of_le hi h.size) e).trans (h.block i hi)⟩

set_option maxHeartbeats 4000000 in
theorem admitting_fn (A : Nat) (D : AD) (T : Int → Nat × Nat) (b f : Bool) (v rc rr sl s : Int) (w : World) (h : Asg w A D) (ok : D.Ok) (hm : MapAt w D.gm T) (hwv : (Lit.int .i64 v).wf = true) (hT : (T v).1 ≤ (T v).2) (hT2 : (T v).2 ≤ D.n) (hmono : ∀ a b, (T v).1 ≤ a → a ≤ b → b < (T v).2 → D.call a ≤ D.call b)
    (hblk : ∀ k ∈ [A, D.gw, D.gc, D.gf, D.gr, D.t1, D.t2, D.t3, D.gd, D.gl], k < w.heap.size) (hS : D.S ∉ [A, D.gw, D.gc, D.gf, D.gr, D.t1, D.t2, D.t3, D.gd, D.gl]) (s0 : w.cell? ⟨D.S, 0, none⟩ = some (.int .i64 s)) (zs : w.frozen? ⟨D.S, 0, none⟩ = false) (hsb : s ≤ 9223372036854775807) :
    Calls Try.prog 25 #[.pointer (some ⟨A, 0, none⟩), rdVal b f v rc rr sl] w fun e w' =>
      e = .returned (.tuple #[.int .i64 (admitF D rc rr (choicesF D T v rc rr) s).1, .int .i64 (admitF D rc rr (choicesF D T v rc rr) s).2.1]) ∧ w'.cell? ⟨D.S, 0, none⟩ = some (.int .i64 (admitF D rc rr (choicesF D T v rc rr) s).2.2) ∧ Kept [D.S] w w' := by
  have hc0 : (choicesF D T v rc rr).Ok D := by
    have hmono2 : ∀ a b, a ≤ b → b < (T v).2 - (T v).1 → D.call ((T v).1 + a) ≤ D.call ((T v).1 + b) := fun a b h1 h2 => hmono _ _ (by omega) (by omega) (by omega)
    have hcb := (bs_spec (fun k => D.call ((T v).1 + k)) (rr + 1) ((T v).2 - (T v).1) hmono2).1
    unfold choicesF
    exact ⟨by show (T v).1 ≤ _; omega, by show (T v).1 + _ ≤ _; omega, by show (T v).1 + _ ≤ _; omega⟩
  have hch := fun w' (hB : Below w.heap.size w w') => choices_fn A D T b f v rc rr sl w' (h.keep hB) ok (hm.keep hB) hwv hT hT2 hmono
  have hcl : (choicesF D T v rc rr).cl = rc := rfl
  have hmg : (choicesF D T v rc rr).mg = false := rfl
  generalize choicesF D T v rc rr = c at *
  have HCH : Hid _ := hch
  clear hch
  have o1 := offerN_ok (rc := rc) (rr := rr) (s.toNat + 1) (s := s) hc0
  have eo : offerN D rc rr (s.toNat + 1) c s = offerF D rc rr c s := rfl
  rw [eo] at o1
  clear eo
  have ho1 : ∀ w' L, Asg w' A D → St w' L D.S c s → Dis A D L → Calls Try.prog 29 #[.pointer (some ⟨A, 0, none⟩), .pointer (some ⟨L, 0, none⟩), rdVal b f v rc rr sl] w' fun e w'' =>
      e = .returned (.int .i64 (offerF D rc rr c s).1) ∧ St w'' L D.S (offerF D rc rr c s).2.1 (offerF D rc rr c s).2.2 ∧ Kept [L, D.S] w' w'' := fun w' L ha hst hd => offer_fn A D L c s b f v rc rr sl w' ha ok hst hd hc0 hsb
  unfold admitF
  generalize offerF D rc rr c s = O1 at *
  obtain ⟨i1, c1, s1⟩ := O1
  simp only at *
  obtain ⟨hc1, hi1, hs1, hf1, _⟩ := o1
  have hs1b : s1 ≤ 9223372036854775807 := by omega
  have ho2 : ∀ w' L, Asg w' A D → St w' L D.S c1 s1 → Dis A D L → Calls Try.prog 29 #[.pointer (some ⟨A, 0, none⟩), .pointer (some ⟨L, 0, none⟩), rdVal b f v rc rr sl] w' fun e w'' =>
      e = .returned (.int .i64 (offerF D rc rr c1 s1).1) ∧ St w'' L D.S (offerF D rc rr c1 s1).2.1 (offerF D rc rr c1 s1).2.2 ∧ Kept [L, D.S] w' w'' := fun w' L ha hst hd => offer_fn A D L c1 s1 b f v rc rr sl w' ha ok hst hd hc1 hs1b
  generalize offerF D rc rr c1 s1 = O2 at *
  obtain ⟨i2, c2, s2⟩ := O2
  simp only at *
  have hl3 : ∀ w' (q : Nat), i1 = q → IntsF w' D.t3 (2 * D.p3) D.N3 → Calls Try.prog 30 #[.agg #[.int .i64 D.p3, .slice (some ⟨D.t3, 0, none⟩) (2 * D.p3) D.k3], .int .i64 c.fr, .int .i64 q, .int .i64 0] w' fun e w'' => e = .returned (.int .i64 (lst D.N3 D.p3 c.fr 0 i1.toNat)) ∧ Below w'.heap.size w' w'' := fun w' q hq hw => by
    subst hq
    exact last_fn D.t3 D.p3 D.k3 c.fr q D.N3 0 w' hw ok.tr3 ok.hp3 (by have := ok.hn3; omega) (by have := hc0.h1; have := ok.hn; omega)
  generalize lst D.N3 D.p3 c.fr 0 i1.toNat = lj at *
  have HO1 : Hid _ := ho1
  have HO2 : Hid _ := ho2
  have HL3 : Hid _ := hl3
  clear ho1 ho2 hl3
  unfold rdVal at *
  have hn := ok.hn
  have hb1 := below1 w (.cells #[.bool b, .int .i64 v, .int .i64 rc, .int .i64 rr, .bool f, .int .i64 sl] 57)
  have r0 : (w.alloc (.cells #[.bool b, .int .i64 v, .int .i64 rc, .int .i64 rr, .bool f, .int .i64 sl] 57)).cell? ⟨w.heap.size, 0, none⟩ = some (.bool b) := by simp [go_sem]
  have r1 : (w.alloc (.cells #[.bool b, .int .i64 v, .int .i64 rc, .int .i64 rr, .bool f, .int .i64 sl] 57)).cell? ⟨w.heap.size, 1, none⟩ = some (.int .i64 v) := by simp [go_sem]
  have r2 : (w.alloc (.cells #[.bool b, .int .i64 v, .int .i64 rc, .int .i64 rr, .bool f, .int .i64 sl] 57)).cell? ⟨w.heap.size, 2, none⟩ = some (.int .i64 rc) := by simp [go_sem]
  have r3 : (w.alloc (.cells #[.bool b, .int .i64 v, .int .i64 rc, .int .i64 rr, .bool f, .int .i64 sl] 57)).cell? ⟨w.heap.size, 3, none⟩ = some (.int .i64 rr) := by simp [go_sem]
  have r4 : (w.alloc (.cells #[.bool b, .int .i64 v, .int .i64 rc, .int .i64 rr, .bool f, .int .i64 sl] 57)).cell? ⟨w.heap.size, 4, none⟩ = some (.bool f) := by simp [go_sem]
  have r5 : (w.alloc (.cells #[.bool b, .int .i64 v, .int .i64 rc, .int .i64 rr, .bool f, .int .i64 sl] 57)).cell? ⟨w.heap.size, 5, none⟩ = some (.int .i64 sl) := by simp [go_sem]
  have hlS : D.S < w.heap.size := World.block_lt_of_cell? w _ s0
  have H : Hid _ := h
  have OK : Hid _ := ok
  have HCL : Hid _ := hcl
  have HMG : Hid _ := hmg
  have HR0 : Hid _ := r0
  clear h ok hm hmono hcl hmg hwv
  by_cases hneg : i1 < 0
  · rw [if_pos hneg]
    go_enter Try.func25, Try.ntmps25
    go_wp2_with fail
    generalize (w.alloc (.cells #[.bool b, .int .i64 v, .int .i64 rc, .int .i64 rr, .bool f, .int .i64 sl] 57)) = W1 at *
    refine (HCH.out W1 hb1).mono ?_
    rintro e W2 ⟨rfl, B2⟩
    clear HCH
    have t0 := cell_alloc_any (cell_keep B2 r0)
    have t1 := cell_alloc_any (cell_keep B2 r1)
    have t2 := cell_alloc_any (cell_keep B2 r2)
    have t3 := cell_alloc_any (cell_keep B2 r3)
    have t4 := cell_alloc_any (cell_keep B2 r4)
    have t5 := cell_alloc_any (cell_keep B2 r5)
    go_wp2_with fail
    have hb2 := below_trans hb1 B2
    have hsz := hb2.size
    have hb3 := below_trans hb2 (below1 W2 (.cells #[.int .i64 c.fr, .int .i64 c.re, .int .i64 c.id, .int .i64 c.bd, .int .i64 rc, .bool false] 81))
    have st3 : St (W2.alloc (.cells #[.int .i64 c.fr, .int .i64 c.re, .int .i64 c.id, .int .i64 c.bd, .int .i64 rc, .bool false] 81)) W2.heap.size D.S c s := ⟨by simp [go_sem], by simp [go_sem], by simp [go_sem], by simp [go_sem], by rw [HCL.out]; simp [go_sem], by rw [HMG.out]; simp [go_sem], cell_keep hb3 s0, by simp [go_sem], by simp [go_sem], by simp [go_sem], (hb3.frozen (p := ⟨D.S, 0, none⟩) hlS).trans zs, by omega⟩
    have dis : Dis A D W2.heap.size := by
      intro k hk hk2
      simp only [List.mem_cons, List.not_mem_nil, or_false] at hk
      rcases hk with rfl | rfl
      · have := hblk _ hk2; omega
      · exact hS hk2
    have DIS : Hid _ := dis
    clear dis
    have u0 := t0 (.cells #[.int .i64 c.fr, .int .i64 c.re, .int .i64 c.id, .int .i64 c.bd, .int .i64 rc, .bool false] 81)
    have u1 := t1 (.cells #[.int .i64 c.fr, .int .i64 c.re, .int .i64 c.id, .int .i64 c.bd, .int .i64 rc, .bool false] 81)
    have u2 := t2 (.cells #[.int .i64 c.fr, .int .i64 c.re, .int .i64 c.id, .int .i64 c.bd, .int .i64 rc, .bool false] 81)
    have u3 := t3 (.cells #[.int .i64 c.fr, .int .i64 c.re, .int .i64 c.id, .int .i64 c.bd, .int .i64 rc, .bool false] 81)
    have u4 := t4 (.cells #[.int .i64 c.fr, .int .i64 c.re, .int .i64 c.id, .int .i64 c.bd, .int .i64 rc, .bool false] 81)
    have u5 := t5 (.cells #[.int .i64 c.fr, .int .i64 c.re, .int .i64 c.id, .int .i64 c.bd, .int .i64 rc, .bool false] 81)
    clear t0 t1 t2 t3 t4 t5 r0 r1 r2 r3 r4 r5
    generalize (W2.alloc (.cells #[.int .i64 c.fr, .int .i64 c.re, .int .i64 c.id, .int .i64 c.bd, .int .i64 rc, .bool false] 81)) = W3 at *
    have as3 := H.out.keep hb3
    refine (HO1.out W3 W2.heap.size as3 st3 DIS.out).mono ?_
    rintro e W4 ⟨rfl, st4, kp4⟩
    clear HO1
    have hwx : w.heap.size ∉ [W2.heap.size, D.S] := by
      have := B2.size
      have h57 : w.heap.size < W1.heap.size := World.block_lt_of_cell? W1 ⟨w.heap.size, 0, none⟩ HR0.out
      simp only [List.mem_cons, List.not_mem_nil, or_false]
      omega
    go_wp2_with fail
    go_returns
    exact ⟨rfl, st4.s0, Kept.drop hb3 kp4 hsz⟩

  · rw [if_neg hneg]
    obtain ⟨q, rfl⟩ : ∃ q : Nat, i1 = q := ⟨i1.toNat, by omega⟩
    clear hneg
    cases hmg1 : c1.mg with
    | true =>
      by_cases hlj : 0 ≤ lj
      · rw [if_pos ⟨rfl, hlj⟩]
        go_enter Try.func25, Try.ntmps25
        go_wp2_with fail
        generalize (w.alloc (.cells #[.bool b, .int .i64 v, .int .i64 rc, .int .i64 rr, .bool f, .int .i64 sl] 57)) = W1 at *
        refine (HCH.out W1 hb1).mono ?_
        rintro e W2 ⟨rfl, B2⟩
        clear HCH
        have t0 := cell_alloc_any (cell_keep B2 r0)
        have t1 := cell_alloc_any (cell_keep B2 r1)
        have t2 := cell_alloc_any (cell_keep B2 r2)
        have t3 := cell_alloc_any (cell_keep B2 r3)
        have t4 := cell_alloc_any (cell_keep B2 r4)
        have t5 := cell_alloc_any (cell_keep B2 r5)
        go_wp2_with fail
        have hb2 := below_trans hb1 B2
        have hsz := hb2.size
        have hb3 := below_trans hb2 (below1 W2 (.cells #[.int .i64 c.fr, .int .i64 c.re, .int .i64 c.id, .int .i64 c.bd, .int .i64 rc, .bool false] 81))
        have st3 : St (W2.alloc (.cells #[.int .i64 c.fr, .int .i64 c.re, .int .i64 c.id, .int .i64 c.bd, .int .i64 rc, .bool false] 81)) W2.heap.size D.S c s := ⟨by simp [go_sem], by simp [go_sem], by simp [go_sem], by simp [go_sem], by rw [HCL.out]; simp [go_sem], by rw [HMG.out]; simp [go_sem], cell_keep hb3 s0, by simp [go_sem], by simp [go_sem], by simp [go_sem], (hb3.frozen (p := ⟨D.S, 0, none⟩) hlS).trans zs, by omega⟩
        have dis : Dis A D W2.heap.size := by
          intro k hk hk2
          simp only [List.mem_cons, List.not_mem_nil, or_false] at hk
          rcases hk with rfl | rfl
          · have := hblk _ hk2; omega
          · exact hS hk2
        have DIS : Hid _ := dis
        clear dis
        have u0 := t0 (.cells #[.int .i64 c.fr, .int .i64 c.re, .int .i64 c.id, .int .i64 c.bd, .int .i64 rc, .bool false] 81)
        have u1 := t1 (.cells #[.int .i64 c.fr, .int .i64 c.re, .int .i64 c.id, .int .i64 c.bd, .int .i64 rc, .bool false] 81)
        have u2 := t2 (.cells #[.int .i64 c.fr, .int .i64 c.re, .int .i64 c.id, .int .i64 c.bd, .int .i64 rc, .bool false] 81)
        have u3 := t3 (.cells #[.int .i64 c.fr, .int .i64 c.re, .int .i64 c.id, .int .i64 c.bd, .int .i64 rc, .bool false] 81)
        have u4 := t4 (.cells #[.int .i64 c.fr, .int .i64 c.re, .int .i64 c.id, .int .i64 c.bd, .int .i64 rc, .bool false] 81)
        have u5 := t5 (.cells #[.int .i64 c.fr, .int .i64 c.re, .int .i64 c.id, .int .i64 c.bd, .int .i64 rc, .bool false] 81)
        clear t0 t1 t2 t3 t4 t5 r0 r1 r2 r3 r4 r5
        generalize (W2.alloc (.cells #[.int .i64 c.fr, .int .i64 c.re, .int .i64 c.id, .int .i64 c.bd, .int .i64 rc, .bool false] 81)) = W3 at *
        have as3 := H.out.keep hb3
        refine (HO1.out W3 W2.heap.size as3 st3 DIS.out).mono ?_
        rintro e W4 ⟨rfl, st4, kp4⟩
        clear HO1
        have hwx : w.heap.size ∉ [W2.heap.size, D.S] := by
          have := B2.size
          have h57 : w.heap.size < W1.heap.size := World.block_lt_of_cell? W1 ⟨w.heap.size, 0, none⟩ HR0.out
          simp only [List.mem_cons, List.not_mem_nil, or_false]
          omega
        have as4 := as3.kept DIS.out kp4
        have v0 := kp4.cell u0 hwx
        have v1 := kp4.cell u1 hwx
        have v2 := kp4.cell u2 hwx
        have v3 := kp4.cell u3 hwx
        have v4 := kp4.cell u4 hwx
        have v5 := kp4.cell u5 hwx
        clear u0 u1 u2 u3 u4 u5 as3 st3
        go_wp2_with fail
        have n4 : Nonempty (BW W4) := ⟨⟨W4, Below.refl _ _⟩⟩
        have x5 := BW.cell st4.l5
        have x0 := BW.cell st4.l0
        have y11 := BW.cell as4.c11
        have y12 := BW.cell as4.c12
        have k3 : ∀ m : BW W4, Calls Try.prog 30 #[.agg #[.int .i64 D.p3, .slice (some ⟨D.t3, 0, none⟩) (2 * D.p3) D.k3], .int .i64 c.fr, .int .i64 q, .int .i64 0] m.W fun e w'' => e = .returned (.int .i64 lj) ∧ ∃ m : BW W4, w'' = m.W := fun m => Calls.bw (HL3.out m.W q rfl (as4.i3.keep m.ok))
        have K3 : Hid _ := k3
        clear k3
        rw [hf1] at x0
        rw [hmg1] at x5
        refine region_bw (by kernel_rfl) (by kernel_rfl) ?_
        repeat (go_big_quiet_step (with_reducible exact K3.out _))
        refine wpQuiet_nil ?_
        rintro W5 ⟨⟨_, B5⟩, rfl⟩
        clear x0 y11 y12 x5 n4 K3
        go_wp2_with fail
        go_returns
        exact ⟨rfl, cell_keep B5 st4.s0, Kept.drop hb3 (kp4.trans (Kept.of B5)) hsz⟩

      · rw [if_neg (by omega)]
        by_cases hi2 : 0 ≤ i2
        · rw [if_pos hi2]
          go_enter Try.func25, Try.ntmps25
          go_wp2_with fail
          generalize (w.alloc (.cells #[.bool b, .int .i64 v, .int .i64 rc, .int .i64 rr, .bool f, .int .i64 sl] 57)) = W1 at *
          refine (HCH.out W1 hb1).mono ?_
          rintro e W2 ⟨rfl, B2⟩
          clear HCH
          have t0 := cell_alloc_any (cell_keep B2 r0)
          have t1 := cell_alloc_any (cell_keep B2 r1)
          have t2 := cell_alloc_any (cell_keep B2 r2)
          have t3 := cell_alloc_any (cell_keep B2 r3)
          have t4 := cell_alloc_any (cell_keep B2 r4)
          have t5 := cell_alloc_any (cell_keep B2 r5)
          go_wp2_with fail
          have hb2 := below_trans hb1 B2
          have hsz := hb2.size
          have hb3 := below_trans hb2 (below1 W2 (.cells #[.int .i64 c.fr, .int .i64 c.re, .int .i64 c.id, .int .i64 c.bd, .int .i64 rc, .bool false] 81))
          have st3 : St (W2.alloc (.cells #[.int .i64 c.fr, .int .i64 c.re, .int .i64 c.id, .int .i64 c.bd, .int .i64 rc, .bool false] 81)) W2.heap.size D.S c s := ⟨by simp [go_sem], by simp [go_sem], by simp [go_sem], by simp [go_sem], by rw [HCL.out]; simp [go_sem], by rw [HMG.out]; simp [go_sem], cell_keep hb3 s0, by simp [go_sem], by simp [go_sem], by simp [go_sem], (hb3.frozen (p := ⟨D.S, 0, none⟩) hlS).trans zs, by omega⟩
          have dis : Dis A D W2.heap.size := by
            intro k hk hk2
            simp only [List.mem_cons, List.not_mem_nil, or_false] at hk
            rcases hk with rfl | rfl
            · have := hblk _ hk2; omega
            · exact hS hk2
          have DIS : Hid _ := dis
          clear dis
          have u0 := t0 (.cells #[.int .i64 c.fr, .int .i64 c.re, .int .i64 c.id, .int .i64 c.bd, .int .i64 rc, .bool false] 81)
          have u1 := t1 (.cells #[.int .i64 c.fr, .int .i64 c.re, .int .i64 c.id, .int .i64 c.bd, .int .i64 rc, .bool false] 81)
          have u2 := t2 (.cells #[.int .i64 c.fr, .int .i64 c.re, .int .i64 c.id, .int .i64 c.bd, .int .i64 rc, .bool false] 81)
          have u3 := t3 (.cells #[.int .i64 c.fr, .int .i64 c.re, .int .i64 c.id, .int .i64 c.bd, .int .i64 rc, .bool false] 81)
          have u4 := t4 (.cells #[.int .i64 c.fr, .int .i64 c.re, .int .i64 c.id, .int .i64 c.bd, .int .i64 rc, .bool false] 81)
          have u5 := t5 (.cells #[.int .i64 c.fr, .int .i64 c.re, .int .i64 c.id, .int .i64 c.bd, .int .i64 rc, .bool false] 81)
          clear t0 t1 t2 t3 t4 t5 r0 r1 r2 r3 r4 r5
          generalize (W2.alloc (.cells #[.int .i64 c.fr, .int .i64 c.re, .int .i64 c.id, .int .i64 c.bd, .int .i64 rc, .bool false] 81)) = W3 at *
          have as3 := H.out.keep hb3
          refine (HO1.out W3 W2.heap.size as3 st3 DIS.out).mono ?_
          rintro e W4 ⟨rfl, st4, kp4⟩
          clear HO1
          have hwx : w.heap.size ∉ [W2.heap.size, D.S] := by
            have := B2.size
            have h57 : w.heap.size < W1.heap.size := World.block_lt_of_cell? W1 ⟨w.heap.size, 0, none⟩ HR0.out
            simp only [List.mem_cons, List.not_mem_nil, or_false]
            omega
          have as4 := as3.kept DIS.out kp4
          have v0 := kp4.cell u0 hwx
          have v1 := kp4.cell u1 hwx
          have v2 := kp4.cell u2 hwx
          have v3 := kp4.cell u3 hwx
          have v4 := kp4.cell u4 hwx
          have v5 := kp4.cell u5 hwx
          clear u0 u1 u2 u3 u4 u5 as3 st3
          go_wp2_with fail
          have n4 : Nonempty (BW W4) := ⟨⟨W4, Below.refl _ _⟩⟩
          have x5 := BW.cell st4.l5
          have x0 := BW.cell st4.l0
          have y11 := BW.cell as4.c11
          have y12 := BW.cell as4.c12
          have k3 : ∀ m : BW W4, Calls Try.prog 30 #[.agg #[.int .i64 D.p3, .slice (some ⟨D.t3, 0, none⟩) (2 * D.p3) D.k3], .int .i64 c.fr, .int .i64 q, .int .i64 0] m.W fun e w'' => e = .returned (.int .i64 lj) ∧ ∃ m : BW W4, w'' = m.W := fun m => Calls.bw (HL3.out m.W q rfl (as4.i3.keep m.ok))
          have K3 : Hid _ := k3
          clear k3
          rw [hf1] at x0
          rw [hmg1] at x5
          refine region_bw (by kernel_rfl) (by kernel_rfl) ?_
          repeat (go_big_quiet_step (with_reducible exact K3.out _))
          refine wpQuiet_nil ?_
          rintro W5 ⟨⟨_, B5⟩, rfl⟩
          clear x0 y11 y12 x5 n4 K3
          have st5 := st4.keep B5
          have as5 := as4.keep B5
          have kp5 := kp4.trans (Kept.of B5)
          have w0 := cell_keep B5 v0
          have w1 := cell_keep B5 v1
          have w2 := cell_keep B5 v2
          have w3 := cell_keep B5 v3
          have w4 := cell_keep B5 v4
          have w5 := cell_keep B5 v5
          go_wp2_with fail
          refine (HO2.out W5 W2.heap.size as5 st5 DIS.out).mono ?_
          rintro e W6 ⟨rfl, st6, kp6⟩
          have hkf := Kept.drop hb3 (kp5.trans kp6) hsz
          go_wp2_with fail
          go_returns
          exact ⟨rfl, st6.s0, hkf⟩
        · rw [if_neg hi2]
          go_enter Try.func25, Try.ntmps25
          go_wp2_with fail
          generalize (w.alloc (.cells #[.bool b, .int .i64 v, .int .i64 rc, .int .i64 rr, .bool f, .int .i64 sl] 57)) = W1 at *
          refine (HCH.out W1 hb1).mono ?_
          rintro e W2 ⟨rfl, B2⟩
          clear HCH
          have t0 := cell_alloc_any (cell_keep B2 r0)
          have t1 := cell_alloc_any (cell_keep B2 r1)
          have t2 := cell_alloc_any (cell_keep B2 r2)
          have t3 := cell_alloc_any (cell_keep B2 r3)
          have t4 := cell_alloc_any (cell_keep B2 r4)
          have t5 := cell_alloc_any (cell_keep B2 r5)
          go_wp2_with fail
          have hb2 := below_trans hb1 B2
          have hsz := hb2.size
          have hb3 := below_trans hb2 (below1 W2 (.cells #[.int .i64 c.fr, .int .i64 c.re, .int .i64 c.id, .int .i64 c.bd, .int .i64 rc, .bool false] 81))
          have st3 : St (W2.alloc (.cells #[.int .i64 c.fr, .int .i64 c.re, .int .i64 c.id, .int .i64 c.bd, .int .i64 rc, .bool false] 81)) W2.heap.size D.S c s := ⟨by simp [go_sem], by simp [go_sem], by simp [go_sem], by simp [go_sem], by rw [HCL.out]; simp [go_sem], by rw [HMG.out]; simp [go_sem], cell_keep hb3 s0, by simp [go_sem], by simp [go_sem], by simp [go_sem], (hb3.frozen (p := ⟨D.S, 0, none⟩) hlS).trans zs, by omega⟩
          have dis : Dis A D W2.heap.size := by
            intro k hk hk2
            simp only [List.mem_cons, List.not_mem_nil, or_false] at hk
            rcases hk with rfl | rfl
            · have := hblk _ hk2; omega
            · exact hS hk2
          have DIS : Hid _ := dis
          clear dis
          have u0 := t0 (.cells #[.int .i64 c.fr, .int .i64 c.re, .int .i64 c.id, .int .i64 c.bd, .int .i64 rc, .bool false] 81)
          have u1 := t1 (.cells #[.int .i64 c.fr, .int .i64 c.re, .int .i64 c.id, .int .i64 c.bd, .int .i64 rc, .bool false] 81)
          have u2 := t2 (.cells #[.int .i64 c.fr, .int .i64 c.re, .int .i64 c.id, .int .i64 c.bd, .int .i64 rc, .bool false] 81)
          have u3 := t3 (.cells #[.int .i64 c.fr, .int .i64 c.re, .int .i64 c.id, .int .i64 c.bd, .int .i64 rc, .bool false] 81)
          have u4 := t4 (.cells #[.int .i64 c.fr, .int .i64 c.re, .int .i64 c.id, .int .i64 c.bd, .int .i64 rc, .bool false] 81)
          have u5 := t5 (.cells #[.int .i64 c.fr, .int .i64 c.re, .int .i64 c.id, .int .i64 c.bd, .int .i64 rc, .bool false] 81)
          clear t0 t1 t2 t3 t4 t5 r0 r1 r2 r3 r4 r5
          generalize (W2.alloc (.cells #[.int .i64 c.fr, .int .i64 c.re, .int .i64 c.id, .int .i64 c.bd, .int .i64 rc, .bool false] 81)) = W3 at *
          have as3 := H.out.keep hb3
          refine (HO1.out W3 W2.heap.size as3 st3 DIS.out).mono ?_
          rintro e W4 ⟨rfl, st4, kp4⟩
          clear HO1
          have hwx : w.heap.size ∉ [W2.heap.size, D.S] := by
            have := B2.size
            have h57 : w.heap.size < W1.heap.size := World.block_lt_of_cell? W1 ⟨w.heap.size, 0, none⟩ HR0.out
            simp only [List.mem_cons, List.not_mem_nil, or_false]
            omega
          have as4 := as3.kept DIS.out kp4
          have v0 := kp4.cell u0 hwx
          have v1 := kp4.cell u1 hwx
          have v2 := kp4.cell u2 hwx
          have v3 := kp4.cell u3 hwx
          have v4 := kp4.cell u4 hwx
          have v5 := kp4.cell u5 hwx
          clear u0 u1 u2 u3 u4 u5 as3 st3
          go_wp2_with fail
          have n4 : Nonempty (BW W4) := ⟨⟨W4, Below.refl _ _⟩⟩
          have x5 := BW.cell st4.l5
          have x0 := BW.cell st4.l0
          have y11 := BW.cell as4.c11
          have y12 := BW.cell as4.c12
          have k3 : ∀ m : BW W4, Calls Try.prog 30 #[.agg #[.int .i64 D.p3, .slice (some ⟨D.t3, 0, none⟩) (2 * D.p3) D.k3], .int .i64 c.fr, .int .i64 q, .int .i64 0] m.W fun e w'' => e = .returned (.int .i64 lj) ∧ ∃ m : BW W4, w'' = m.W := fun m => Calls.bw (HL3.out m.W q rfl (as4.i3.keep m.ok))
          have K3 : Hid _ := k3
          clear k3
          rw [hf1] at x0
          rw [hmg1] at x5
          refine region_bw (by kernel_rfl) (by kernel_rfl) ?_
          repeat (go_big_quiet_step (with_reducible exact K3.out _))
          refine wpQuiet_nil ?_
          rintro W5 ⟨⟨_, B5⟩, rfl⟩
          clear x0 y11 y12 x5 n4 K3
          have st5 := st4.keep B5
          have as5 := as4.keep B5
          have kp5 := kp4.trans (Kept.of B5)
          have w0 := cell_keep B5 v0
          have w1 := cell_keep B5 v1
          have w2 := cell_keep B5 v2
          have w3 := cell_keep B5 v3
          have w4 := cell_keep B5 v4
          have w5 := cell_keep B5 v5
          go_wp2_with fail
          refine (HO2.out W5 W2.heap.size as5 st5 DIS.out).mono ?_
          rintro e W6 ⟨rfl, st6, kp6⟩
          have hkf := Kept.drop hb3 (kp5.trans kp6) hsz
          go_wp2_with fail
          go_returns
          exact ⟨rfl, st6.s0, hkf⟩
    | false =>
      rw [if_neg (by simp)]
      by_cases hi2 : 0 ≤ i2
      · rw [if_pos hi2]
        go_enter Try.func25, Try.ntmps25
        go_wp2_with fail
        generalize (w.alloc (.cells #[.bool b, .int .i64 v, .int .i64 rc, .int .i64 rr, .bool f, .int .i64 sl] 57)) = W1 at *
        refine (HCH.out W1 hb1).mono ?_
        rintro e W2 ⟨rfl, B2⟩
        clear HCH
        have t0 := cell_alloc_any (cell_keep B2 r0)
        have t1 := cell_alloc_any (cell_keep B2 r1)
        have t2 := cell_alloc_any (cell_keep B2 r2)
        have t3 := cell_alloc_any (cell_keep B2 r3)
        have t4 := cell_alloc_any (cell_keep B2 r4)
        have t5 := cell_alloc_any (cell_keep B2 r5)
        go_wp2_with fail
        have hb2 := below_trans hb1 B2
        have hsz := hb2.size
        have hb3 := below_trans hb2 (below1 W2 (.cells #[.int .i64 c.fr, .int .i64 c.re, .int .i64 c.id, .int .i64 c.bd, .int .i64 rc, .bool false] 81))
        have st3 : St (W2.alloc (.cells #[.int .i64 c.fr, .int .i64 c.re, .int .i64 c.id, .int .i64 c.bd, .int .i64 rc, .bool false] 81)) W2.heap.size D.S c s := ⟨by simp [go_sem], by simp [go_sem], by simp [go_sem], by simp [go_sem], by rw [HCL.out]; simp [go_sem], by rw [HMG.out]; simp [go_sem], cell_keep hb3 s0, by simp [go_sem], by simp [go_sem], by simp [go_sem], (hb3.frozen (p := ⟨D.S, 0, none⟩) hlS).trans zs, by omega⟩
        have dis : Dis A D W2.heap.size := by
          intro k hk hk2
          simp only [List.mem_cons, List.not_mem_nil, or_false] at hk
          rcases hk with rfl | rfl
          · have := hblk _ hk2; omega
          · exact hS hk2
        have DIS : Hid _ := dis
        clear dis
        have u0 := t0 (.cells #[.int .i64 c.fr, .int .i64 c.re, .int .i64 c.id, .int .i64 c.bd, .int .i64 rc, .bool false] 81)
        have u1 := t1 (.cells #[.int .i64 c.fr, .int .i64 c.re, .int .i64 c.id, .int .i64 c.bd, .int .i64 rc, .bool false] 81)
        have u2 := t2 (.cells #[.int .i64 c.fr, .int .i64 c.re, .int .i64 c.id, .int .i64 c.bd, .int .i64 rc, .bool false] 81)
        have u3 := t3 (.cells #[.int .i64 c.fr, .int .i64 c.re, .int .i64 c.id, .int .i64 c.bd, .int .i64 rc, .bool false] 81)
        have u4 := t4 (.cells #[.int .i64 c.fr, .int .i64 c.re, .int .i64 c.id, .int .i64 c.bd, .int .i64 rc, .bool false] 81)
        have u5 := t5 (.cells #[.int .i64 c.fr, .int .i64 c.re, .int .i64 c.id, .int .i64 c.bd, .int .i64 rc, .bool false] 81)
        clear t0 t1 t2 t3 t4 t5 r0 r1 r2 r3 r4 r5
        generalize (W2.alloc (.cells #[.int .i64 c.fr, .int .i64 c.re, .int .i64 c.id, .int .i64 c.bd, .int .i64 rc, .bool false] 81)) = W3 at *
        have as3 := H.out.keep hb3
        refine (HO1.out W3 W2.heap.size as3 st3 DIS.out).mono ?_
        rintro e W4 ⟨rfl, st4, kp4⟩
        clear HO1
        have hwx : w.heap.size ∉ [W2.heap.size, D.S] := by
          have := B2.size
          have h57 : w.heap.size < W1.heap.size := World.block_lt_of_cell? W1 ⟨w.heap.size, 0, none⟩ HR0.out
          simp only [List.mem_cons, List.not_mem_nil, or_false]
          omega
        have as4 := as3.kept DIS.out kp4
        have v0 := kp4.cell u0 hwx
        have v1 := kp4.cell u1 hwx
        have v2 := kp4.cell u2 hwx
        have v3 := kp4.cell u3 hwx
        have v4 := kp4.cell u4 hwx
        have v5 := kp4.cell u5 hwx
        clear u0 u1 u2 u3 u4 u5 as3 st3
        go_wp2_with fail
        have n4 : Nonempty (BW W4) := ⟨⟨W4, Below.refl _ _⟩⟩
        have x5 := BW.cell st4.l5
        rw [hmg1] at x5
        refine region_bw (by kernel_rfl) (by kernel_rfl) ?_
        repeat (go_big_quiet_step (fail))
        refine wpQuiet_nil ?_
        rintro W5 ⟨⟨_, B5⟩, rfl⟩
        clear x5 n4
        have st5 := st4.keep B5
        have as5 := as4.keep B5
        have kp5 := kp4.trans (Kept.of B5)
        have w0 := cell_keep B5 v0
        have w1 := cell_keep B5 v1
        have w2 := cell_keep B5 v2
        have w3 := cell_keep B5 v3
        have w4 := cell_keep B5 v4
        have w5 := cell_keep B5 v5
        go_wp2_with fail
        refine (HO2.out W5 W2.heap.size as5 st5 DIS.out).mono ?_
        rintro e W6 ⟨rfl, st6, kp6⟩
        have hkf := Kept.drop hb3 (kp5.trans kp6) hsz
        go_wp2_with fail
        go_returns
        exact ⟨rfl, st6.s0, hkf⟩
      · rw [if_neg hi2]
        go_enter Try.func25, Try.ntmps25
        go_wp2_with fail
        generalize (w.alloc (.cells #[.bool b, .int .i64 v, .int .i64 rc, .int .i64 rr, .bool f, .int .i64 sl] 57)) = W1 at *
        refine (HCH.out W1 hb1).mono ?_
        rintro e W2 ⟨rfl, B2⟩
        clear HCH
        have t0 := cell_alloc_any (cell_keep B2 r0)
        have t1 := cell_alloc_any (cell_keep B2 r1)
        have t2 := cell_alloc_any (cell_keep B2 r2)
        have t3 := cell_alloc_any (cell_keep B2 r3)
        have t4 := cell_alloc_any (cell_keep B2 r4)
        have t5 := cell_alloc_any (cell_keep B2 r5)
        go_wp2_with fail
        have hb2 := below_trans hb1 B2
        have hsz := hb2.size
        have hb3 := below_trans hb2 (below1 W2 (.cells #[.int .i64 c.fr, .int .i64 c.re, .int .i64 c.id, .int .i64 c.bd, .int .i64 rc, .bool false] 81))
        have st3 : St (W2.alloc (.cells #[.int .i64 c.fr, .int .i64 c.re, .int .i64 c.id, .int .i64 c.bd, .int .i64 rc, .bool false] 81)) W2.heap.size D.S c s := ⟨by simp [go_sem], by simp [go_sem], by simp [go_sem], by simp [go_sem], by rw [HCL.out]; simp [go_sem], by rw [HMG.out]; simp [go_sem], cell_keep hb3 s0, by simp [go_sem], by simp [go_sem], by simp [go_sem], (hb3.frozen (p := ⟨D.S, 0, none⟩) hlS).trans zs, by omega⟩
        have dis : Dis A D W2.heap.size := by
          intro k hk hk2
          simp only [List.mem_cons, List.not_mem_nil, or_false] at hk
          rcases hk with rfl | rfl
          · have := hblk _ hk2; omega
          · exact hS hk2
        have DIS : Hid _ := dis
        clear dis
        have u0 := t0 (.cells #[.int .i64 c.fr, .int .i64 c.re, .int .i64 c.id, .int .i64 c.bd, .int .i64 rc, .bool false] 81)
        have u1 := t1 (.cells #[.int .i64 c.fr, .int .i64 c.re, .int .i64 c.id, .int .i64 c.bd, .int .i64 rc, .bool false] 81)
        have u2 := t2 (.cells #[.int .i64 c.fr, .int .i64 c.re, .int .i64 c.id, .int .i64 c.bd, .int .i64 rc, .bool false] 81)
        have u3 := t3 (.cells #[.int .i64 c.fr, .int .i64 c.re, .int .i64 c.id, .int .i64 c.bd, .int .i64 rc, .bool false] 81)
        have u4 := t4 (.cells #[.int .i64 c.fr, .int .i64 c.re, .int .i64 c.id, .int .i64 c.bd, .int .i64 rc, .bool false] 81)
        have u5 := t5 (.cells #[.int .i64 c.fr, .int .i64 c.re, .int .i64 c.id, .int .i64 c.bd, .int .i64 rc, .bool false] 81)
        clear t0 t1 t2 t3 t4 t5 r0 r1 r2 r3 r4 r5
        generalize (W2.alloc (.cells #[.int .i64 c.fr, .int .i64 c.re, .int .i64 c.id, .int .i64 c.bd, .int .i64 rc, .bool false] 81)) = W3 at *
        have as3 := H.out.keep hb3
        refine (HO1.out W3 W2.heap.size as3 st3 DIS.out).mono ?_
        rintro e W4 ⟨rfl, st4, kp4⟩
        clear HO1
        have hwx : w.heap.size ∉ [W2.heap.size, D.S] := by
          have := B2.size
          have h57 : w.heap.size < W1.heap.size := World.block_lt_of_cell? W1 ⟨w.heap.size, 0, none⟩ HR0.out
          simp only [List.mem_cons, List.not_mem_nil, or_false]
          omega
        have as4 := as3.kept DIS.out kp4
        have v0 := kp4.cell u0 hwx
        have v1 := kp4.cell u1 hwx
        have v2 := kp4.cell u2 hwx
        have v3 := kp4.cell u3 hwx
        have v4 := kp4.cell u4 hwx
        have v5 := kp4.cell u5 hwx
        clear u0 u1 u2 u3 u4 u5 as3 st3
        go_wp2_with fail
        have n4 : Nonempty (BW W4) := ⟨⟨W4, Below.refl _ _⟩⟩
        have x5 := BW.cell st4.l5
        rw [hmg1] at x5
        refine region_bw (by kernel_rfl) (by kernel_rfl) ?_
        repeat (go_big_quiet_step (fail))
        refine wpQuiet_nil ?_
        rintro W5 ⟨⟨_, B5⟩, rfl⟩
        clear x5 n4
        have st5 := st4.keep B5
        have as5 := as4.keep B5
        have kp5 := kp4.trans (Kept.of B5)
        have w0 := cell_keep B5 v0
        have w1 := cell_keep B5 v1
        have w2 := cell_keep B5 v2
        have w3 := cell_keep B5 v3
        have w4 := cell_keep B5 v4
        have w5 := cell_keep B5 v5
        go_wp2_with fail
        refine (HO2.out W5 W2.heap.size as5 st5 DIS.out).mono ?_
        rintro e W6 ⟨rfl, st6, kp6⟩
        have hkf := Kept.drop hb3 (kp5.trans kp6) hsz
        go_wp2_with fail
        go_returns
        exact ⟨rfl, st6.s0, hkf⟩
end Go.Proofs.Qxb6609392a
