/-
  The assignment behind its pointer: what the road reads of it; admits.
-/
import Derived.Test.Qxb6609392aForce
namespace Go.Proofs.Qxb6609392a
open Go.RowKit

/-- What the assignment holds: blocks, capacities, contents. -/
structure AD where
  n : Nat
  gw : Nat
  gc : Nat
  gf : Nat
  gm : Nat
  gr : Nat
  t1 : Nat
  t2 : Nat
  t3 : Nat
  gd : Nat
  gl : Nat
  cw : Nat
  cc : Nat
  cf : Nat
  cr : Nat
  k1 : Nat
  k2 : Nat
  k3 : Nat
  cd : Nat
  cl : Nat
  call : Nat → Int
  CW : Nat → Int
  CL : Nat → Int
  CF : Nat → Int
  fst : Nat → Int
  nv : Int
  s : Nat
  R : Nat → Int
  p1 : Nat
  N1 : Nat → Int
  p2 : Nat
  N2 : Nat → Int
  p3 : Nat
  N3 : Nat → Int
  d : Nat
  OR : Nat → Int
  OL : Nat → Int
  S : Nat

/-- The plain part: the numbers fit one another. -/
structure AD.Ok (D : AD) : Prop where
  hn : D.n ≤ 4096
  hs : D.s ≤ 8192
  hsp : D.s ≤ D.p1
  hp1 : D.p1 ≤ 65536
  hp2 : D.p2 ≤ 65536
  hp3 : D.p3 ≤ 65536
  hn2 : D.n ≤ D.p2
  hn3 : D.n ≤ D.p3
  hd : D.d ≤ 4096
  tr1 : Tree D.p1 D.N1
  tr2 : Tree D.p2 D.N2
  tr3 : Tree D.p3 D.N3
  sortR : ∀ a b, a ≤ b → b < D.s → D.R a ≤ D.R b
  sortO : ∀ a b, a ≤ b → b < D.d → D.OR a ≤ D.OR b

/-- The assignment lies in block A of W. -/
structure Asg (W : World) (A : Nat) (D : AD) : Prop where
  c0 : W.cell? ⟨A, 0, none⟩ = some (.slice (some ⟨D.gw, 0, none⟩) D.n D.cw)
  c1 : W.cell? ⟨A, 1, none⟩ = some (.slice (some ⟨D.gc, 0, none⟩) D.n D.cc)
  c2 : W.cell? ⟨A, 2, none⟩ = some (.slice (some ⟨D.gf, 0, none⟩) D.n D.cf)
  c3 : W.cell? ⟨A, 3, none⟩ = some (.map (some D.gm))
  c4 : W.cell? ⟨A, 4, none⟩ = some (.int .i64 D.nv)
  c5 : W.cell? ⟨A, 5, none⟩ = some (.slice (some ⟨D.gr, 0, none⟩) D.s D.cr)
  c6 : W.cell? ⟨A, 6, none⟩ = some (.int .i64 D.p1)
  c7 : W.cell? ⟨A, 7, none⟩ = some (.slice (some ⟨D.t1, 0, none⟩) (2 * D.p1) D.k1)
  c9 : W.cell? ⟨A, 9, none⟩ = some (.int .i64 D.p2)
  c10 : W.cell? ⟨A, 10, none⟩ = some (.slice (some ⟨D.t2, 0, none⟩) (2 * D.p2) D.k2)
  c11 : W.cell? ⟨A, 11, none⟩ = some (.int .i64 D.p3)
  c12 : W.cell? ⟨A, 12, none⟩ = some (.slice (some ⟨D.t3, 0, none⟩) (2 * D.p3) D.k3)
  c13 : W.cell? ⟨A, 13, none⟩ = some (.slice (some ⟨D.gd, 0, none⟩) D.d D.cd)
  c14 : W.cell? ⟨A, 14, none⟩ = some (.slice (some ⟨D.gl, 0, none⟩) D.d D.cl)
  c15 : W.cell? ⟨A, 15, none⟩ = some (.pointer (some ⟨D.S, 0, none⟩))
  w2 : ∀ i, i < D.n → W.cell? ⟨D.gw, i * 5 + 2, none⟩ = some (.int .i64 (D.call i))
  k0 : ∀ i, i < D.n → W.cell? ⟨D.gc, i * 3, none⟩ = some (.int .i64 (D.CW i))
  k1 : ∀ i, i < D.n → W.cell? ⟨D.gc, i * 3 + 1, none⟩ = some (.int .i64 (D.CL i))
  k2 : ∀ i, i < D.n → W.cell? ⟨D.gc, i * 3 + 2, none⟩ = some (.int .i64 (D.CF i))
  f : IntsF W D.gf D.n D.fst
  r : IntsF W D.gr D.s D.R
  i1 : IntsF W D.t1 (2 * D.p1) D.N1
  i2 : IntsF W D.t2 (2 * D.p2) D.N2
  i3 : IntsF W D.t3 (2 * D.p3) D.N3
  o : IntsF W D.gd D.d D.OR
  l : IntsF W D.gl D.d D.OL

theorem Asg.of {W W' : World} {A : Nat} {D : AD} (h : Asg W A D) (hk : ∀ p v, W.cell? p = some v → p.block ∈ [A, D.gw, D.gc, D.gf, D.gr, D.t1, D.t2, D.t3, D.gd, D.gl] → W'.cell? p = some v) : Asg W' A D :=
  ⟨hk _ _ h.c0 (by simp), hk _ _ h.c1 (by simp), hk _ _ h.c2 (by simp), hk _ _ h.c3 (by simp), hk _ _ h.c4 (by simp), hk _ _ h.c5 (by simp), hk _ _ h.c6 (by simp), hk _ _ h.c7 (by simp), hk _ _ h.c9 (by simp), hk _ _ h.c10 (by simp), hk _ _ h.c11 (by simp), hk _ _ h.c12 (by simp), hk _ _ h.c13 (by simp), hk _ _ h.c14 (by simp), hk _ _ h.c15 (by simp),
    fun i hi => hk _ _ (h.w2 i hi) (by simp), fun i hi => hk _ _ (h.k0 i hi) (by simp), fun i hi => hk _ _ (h.k1 i hi) (by simp), fun i hi => hk _ _ (h.k2 i hi) (by simp),
    fun i hi => hk _ _ (h.f i hi) (by simp), fun i hi => hk _ _ (h.r i hi) (by simp), fun i hi => hk _ _ (h.i1 i hi) (by simp), fun i hi => hk _ _ (h.i2 i hi) (by simp), fun i hi => hk _ _ (h.i3 i hi) (by simp), fun i hi => hk _ _ (h.o i hi) (by simp), fun i hi => hk _ _ (h.l i hi) (by simp)⟩
theorem Asg.keep {W W' : World} {A : Nat} {D : AD} (h : Asg W A D) (hB : Below W.heap.size W W') : Asg W' A D := h.of fun _ _ hc _ => cell_keep hB hc

/-- Write i admits the cluster (lc, fr). -/
def AD.admits (D : AD) (i : Nat) (lc fr : Int) : Bool := decide (D.nv ≤ fr) && !decide (fr < forcedMax D.R D.N1 D.p1 D.s lc (D.fst i))

set_option maxHeartbeats 2000000 in
theorem admits_fn (A : Nat) (D : AD) (i : Nat) (wc lc fr : Int) (w : World) (h : Asg w A D) (ok : D.Ok) (hi : i < D.n) :
    Calls Try.prog 36 #[.pointer (some ⟨A, 0, none⟩), .int .i64 i, .agg #[.int .i64 wc, .int .i64 lc, .int .i64 fr]] w fun e w' => e = .returned (.bool (D.admits i lc fr)) ∧ Below w.heap.size w w' := by
  have hb1 := below1 w (.cells #[.int .i64 wc, .int .i64 lc, .int .i64 fr] 47)
  have h1 := h.keep hb1
  have bx0 : (w.alloc (.cells #[.int .i64 wc, .int .i64 lc, .int .i64 fr] 47)).cell? ⟨w.heap.size, 0, none⟩ = some (.int .i64 wc) := by simp [go_sem]
  have bx1 : (w.alloc (.cells #[.int .i64 wc, .int .i64 lc, .int .i64 fr] 47)).cell? ⟨w.heap.size, 1, none⟩ = some (.int .i64 lc) := by simp [go_sem]
  have bx2 : (w.alloc (.cells #[.int .i64 wc, .int .i64 lc, .int .i64 fr] 47)).cell? ⟨w.heap.size, 2, none⟩ = some (.int .i64 fr) := by simp [go_sem]
  unfold AD.admits
  have hn := ok.hn
  go_enter Try.func36, Try.ntmps36
  go_wp2_with fail
  generalize (w.alloc (.cells #[.int .i64 wc, .int .i64 lc, .int .i64 fr] 47)) = W1 at *
  have hne : Nonempty (BW W1) := ⟨⟨W1, Below.refl _ _⟩⟩
  have x2 := BW.cell bx2
  have y4 := BW.cell h1.c4
  by_cases hf : D.nv ≤ fr
  · have hd : decide (D.nv ≤ fr) = true := by simpa using hf
    have x0 := BW.cell bx0
    have x1 := BW.cell bx1
    have y5 := BW.cell h1.c5
    have y6 := BW.cell h1.c6
    have y7 := BW.cell h1.c7
    have y2 := BW.cell h1.c2
    have yf := BW.cell (h1.f i hi)
    have hii : (i : Int) < (D.n : Int) := by omega
    have hi0 : (0 : Int) ≤ (i : Int) := by omega
    have k1 : ∀ m : BW W1, Calls Try.prog 40 #[.agg #[.slice (some ⟨D.gr, 0, none⟩) D.s D.cr, .int .i64 D.p1, .slice (some ⟨D.t1, 0, none⟩) (2 * D.p1) D.k1], .agg #[.int .i64 wc, .int .i64 lc, .int .i64 fr], .int .i64 (D.fst i)] m.W fun e w'' => e = .returned (.bool (decide (fr < forcedMax D.R D.N1 D.p1 D.s lc (D.fst i)))) ∧ ∃ m : BW W1, w'' = m.W :=
      fun m => Calls.bw (forced_fn D.gr D.cr D.t1 D.k1 D.s D.p1 D.R D.N1 wc lc fr (D.fst i) m.W (h1.r.keep m.ok) (h1.i1.keep m.ok) ok.tr1 ok.hsp ok.hp1 ok.sortR)
    have K1 : Hid _ := k1
    clear k1
    have H : Hid _ := h
    have H1 : Hid _ := h1
    have OK : Hid _ := ok
    clear h h1 ok
    refine region_bw (by kernel_rfl) (by kernel_rfl) ?_
    repeat (go_big_quiet_step (with_reducible exact K1.out _))
    refine wpQuiet_nil ?_
    rintro w9 ⟨⟨W9, B9⟩, rfl⟩
    go_wp2_with fail
    go_returns
    exact ⟨by rw [hd]; rfl, below_trans hb1 B9⟩
  · have hd : decide (D.nv ≤ fr) = false := by simpa using hf
    have H : Hid _ := h
    have H1 : Hid _ := h1
    have OK : Hid _ := ok
    clear h h1 ok
    refine region_bw (by kernel_rfl) (by kernel_rfl) ?_
    repeat (go_big_quiet_step (fail))
    refine wpQuiet_nil ?_
    rintro w9 ⟨⟨W9, B9⟩, rfl⟩
    go_wp2_with fail
    go_returns
    exact ⟨rfl, below_trans hb1 B9⟩
end Go.Proofs.Qxb6609392a
