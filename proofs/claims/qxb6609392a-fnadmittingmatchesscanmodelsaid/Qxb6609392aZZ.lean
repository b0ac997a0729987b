/-
  ZZadmitting: the assignment is laid, and admitting is asked.
-/
import Derived.Test.Qxb6609392aPairs
namespace Go.Proofs.Qxb6609392a
open Go.RowKit

/-- What the slices of the assignment hold. -/
structure Cont (W : World) (D : AD) : Prop where
  w2 : ∀ i, i < D.n → W.cell? ⟨D.gw, i * 5 + 2, none⟩ = some (.int .i64 (D.call i))
  k0 : ∀ i, i < D.n → W.cell? ⟨D.gc, i * 3, none⟩ = some (.int .i64 (D.CW i))
  k1 : ∀ i, i < D.n → W.cell? ⟨D.gc, i * 3 + 1, none⟩ = some (.int .i64 (D.CL i))
  k2 : ∀ i, i < D.n → W.cell? ⟨D.gc, i * 3 + 2, none⟩ = some (.int .i64 (D.CF i))
  f : IntsF W D.gf D.n D.fst
  r : IntsF W D.gr D.s D.R
  i1 : IntsF W D.t1 (2 * D.p1) D.N1
  i2 : IntsF W D.t2 (2 * D.p2) D.N2
  i3 : IntsF W D.t3 (2 * D.p3) D.N3
  o : IntsF W D.gd D.d D.OR
  l : IntsF W D.gl D.d D.OL
theorem Cont.keep {W W' : World} {D : AD} (h : Cont W D) (hB : Below W.heap.size W W') : Cont W' D :=
  ⟨fun i hi => cell_keep hB (h.w2 i hi), fun i hi => cell_keep hB (h.k0 i hi), fun i hi => cell_keep hB (h.k1 i hi), fun i hi => cell_keep hB (h.k2 i hi), h.f.keep hB, h.r.keep hB, h.i1.keep hB, h.i2.keep hB, h.i3.keep hB, h.o.keep hB, h.l.keep hB⟩

theorem Asg.made (W : World) (D : AD) (h : Cont W D) : Asg (W.alloc (.cells #[.slice (some ⟨D.gw, 0, none⟩) D.n D.cw, .slice (some ⟨D.gc, 0, none⟩) D.n D.cc, .slice (some ⟨D.gf, 0, none⟩) D.n D.cf, .map (some D.gm), .int .i64 D.nv, .slice (some ⟨D.gr, 0, none⟩) D.s D.cr, .int .i64 D.p1, .slice (some ⟨D.t1, 0, none⟩) (2 * D.p1) D.k1, .slice none 0 0, .int .i64 D.p2, .slice (some ⟨D.t2, 0, none⟩) (2 * D.p2) D.k2, .int .i64 D.p3, .slice (some ⟨D.t3, 0, none⟩) (2 * D.p3) D.k3, .slice (some ⟨D.gd, 0, none⟩) D.d D.cd, .slice (some ⟨D.gl, 0, none⟩) D.d D.cl, .pointer (some ⟨D.S, 0, none⟩)] 76)) W.heap.size D := by
  have k := h.keep (below1 W (.cells #[.slice (some ⟨D.gw, 0, none⟩) D.n D.cw, .slice (some ⟨D.gc, 0, none⟩) D.n D.cc, .slice (some ⟨D.gf, 0, none⟩) D.n D.cf, .map (some D.gm), .int .i64 D.nv, .slice (some ⟨D.gr, 0, none⟩) D.s D.cr, .int .i64 D.p1, .slice (some ⟨D.t1, 0, none⟩) (2 * D.p1) D.k1, .slice none 0 0, .int .i64 D.p2, .slice (some ⟨D.t2, 0, none⟩) (2 * D.p2) D.k2, .int .i64 D.p3, .slice (some ⟨D.t3, 0, none⟩) (2 * D.p3) D.k3, .slice (some ⟨D.gd, 0, none⟩) D.d D.cd, .slice (some ⟨D.gl, 0, none⟩) D.d D.cl, .pointer (some ⟨D.S, 0, none⟩)] 76))
  exact ⟨by simp [go_sem], by simp [go_sem], by simp [go_sem], by simp [go_sem], by simp [go_sem], by simp [go_sem], by simp [go_sem], by simp [go_sem], by simp [go_sem], by simp [go_sem], by simp [go_sem], by simp [go_sem], by simp [go_sem], by simp [go_sem], by simp [go_sem], k.w2, k.k0, k.k1, k.k2, k.f, k.r, k.i1, k.i2, k.i3, k.o, k.l⟩

set_option maxHeartbeats 4000000 in
theorem zzadm_fn (D : AD) (T : Int → Nat × Nat) (b f : Bool) (v rc rr sl s : Int) (w : World) (h : Cont w D) (ok : D.Ok) (hm : MapAt w D.gm T) (hwv : (Lit.int .i64 v).wf = true) (hT : (T v).1 ≤ (T v).2) (hT2 : (T v).2 ≤ D.n) (hmono : ∀ a b, (T v).1 ≤ a → a ≤ b → b < (T v).2 → D.call a ≤ D.call b)
    (hblk : ∀ k ∈ [D.gw, D.gc, D.gf, D.gr, D.t1, D.t2, D.t3, D.gd, D.gl], k < w.heap.size) (hS : D.S ∉ [D.gw, D.gc, D.gf, D.gr, D.t1, D.t2, D.t3, D.gd, D.gl]) (s0 : w.cell? ⟨D.S, 0, none⟩ = some (.int .i64 s)) (zs : w.frozen? ⟨D.S, 0, none⟩ = false) (hsb : s ≤ 9223372036854775807) :
    Calls Try.prog 21 #[.slice (some ⟨D.gw, 0, none⟩) D.n D.cw, .slice (some ⟨D.gc, 0, none⟩) D.n D.cc, .slice (some ⟨D.gf, 0, none⟩) D.n D.cf, .map (some D.gm), .int .i64 D.nv, .slice (some ⟨D.gr, 0, none⟩) D.s D.cr,
        .agg #[.int .i64 D.p1, .slice (some ⟨D.t1, 0, none⟩) (2 * D.p1) D.k1], .agg #[.int .i64 D.p2, .slice (some ⟨D.t2, 0, none⟩) (2 * D.p2) D.k2], .agg #[.int .i64 D.p3, .slice (some ⟨D.t3, 0, none⟩) (2 * D.p3) D.k3],
        .agg #[.slice (some ⟨D.gd, 0, none⟩) D.d D.cd, .slice (some ⟨D.gl, 0, none⟩) D.d D.cl], .pointer (some ⟨D.S, 0, none⟩), rdVal b f v rc rr sl] w fun e w' =>
      e = .returned (.tuple #[.int .i64 (admitF D rc rr (choicesF D T v rc rr) s).1, .int .i64 (admitF D rc rr (choicesF D T v rc rr) s).2.1]) ∧ w'.cell? ⟨D.S, 0, none⟩ = some (.int .i64 (admitF D rc rr (choicesF D T v rc rr) s).2.2) ∧ Kept [D.S] w w' := by
  have hlS : D.S < w.heap.size := World.block_lt_of_cell? w _ s0
  have hcall := fun (W : World) (A : Nat) (ha : Asg W A D) (hB : Below w.heap.size w W) (hA : w.heap.size ≤ A) (hA2 : A < W.heap.size) => admitting_fn A D T b f v rc rr sl s W ha ok (hm.keep hB) hwv hT hT2 hmono
    (fun k hk => by
      have := hB.size
      simp only [List.mem_cons] at hk
      rcases hk with rfl | hk
      · exact hA2
      · have := hblk k (by simpa using hk); omega)
    (fun hk => by
      simp only [List.mem_cons] at hk
      rcases hk with hk | hk
      · omega
      · exact hS (by simpa using hk))
    (cell_keep hB s0) ((hB.frozen (p := ⟨D.S, 0, none⟩) hlS).trans zs) hsb
  generalize admitF D rc rr (choicesF D T v rc rr) s = R at *
  have HC : Hid _ := hcall
  have H : Hid _ := h
  clear hcall h ok hm hmono hwv
  unfold rdVal at *
  go_enter Try.func21, Try.ntmps21
  go_wp2_with fail
  have hB5 : Below w.heap.size w (((((w.alloc (.cells #[.int .i64 D.p1, .slice (some ⟨D.t1, 0, none⟩) (2 * D.p1) D.k1] 62)).alloc (.cells #[.int .i64 D.p2, .slice (some ⟨D.t2, 0, none⟩) (2 * D.p2) D.k2] 62)).alloc (.cells #[.int .i64 D.p3, .slice (some ⟨D.t3, 0, none⟩) (2 * D.p3) D.k3] 62)).alloc (.cells #[.slice (some ⟨D.gd, 0, none⟩) D.d D.cd, .slice (some ⟨D.gl, 0, none⟩) D.d D.cl] 65)).alloc (.cells #[.bool b, .int .i64 v, .int .i64 rc, .int .i64 rr, .bool f, .int .i64 sl] 57)) := below_trans (below3 w _ _ _) (below2 _ _ _)
  have hz5 : (((((w.alloc (.cells #[.int .i64 D.p1, .slice (some ⟨D.t1, 0, none⟩) (2 * D.p1) D.k1] 62)).alloc (.cells #[.int .i64 D.p2, .slice (some ⟨D.t2, 0, none⟩) (2 * D.p2) D.k2] 62)).alloc (.cells #[.int .i64 D.p3, .slice (some ⟨D.t3, 0, none⟩) (2 * D.p3) D.k3] 62)).alloc (.cells #[.slice (some ⟨D.gd, 0, none⟩) D.d D.cd, .slice (some ⟨D.gl, 0, none⟩) D.d D.cl] 65)).alloc (.cells #[.bool b, .int .i64 v, .int .i64 rc, .int .i64 rr, .bool f, .int .i64 sl] 57)).heap.size = w.heap.size + 1 + 1 + 1 + 1 + 1 := by simp
  generalize (((((w.alloc (.cells #[.int .i64 D.p1, .slice (some ⟨D.t1, 0, none⟩) (2 * D.p1) D.k1] 62)).alloc (.cells #[.int .i64 D.p2, .slice (some ⟨D.t2, 0, none⟩) (2 * D.p2) D.k2] 62)).alloc (.cells #[.int .i64 D.p3, .slice (some ⟨D.t3, 0, none⟩) (2 * D.p3) D.k3] 62)).alloc (.cells #[.slice (some ⟨D.gd, 0, none⟩) D.d D.cd, .slice (some ⟨D.gl, 0, none⟩) D.d D.cl] 65)).alloc (.cells #[.bool b, .int .i64 v, .int .i64 rc, .int .i64 rr, .bool f, .int .i64 sl] 57)) = W5 at *
  have ha := Asg.made W5 D (H.out.keep hB5)
  rw [hz5] at ha
  have hB6 := below_trans hB5 (below1 W5 (.cells #[.slice (some ⟨D.gw, 0, none⟩) D.n D.cw, .slice (some ⟨D.gc, 0, none⟩) D.n D.cc, .slice (some ⟨D.gf, 0, none⟩) D.n D.cf, .map (some D.gm), .int .i64 D.nv, .slice (some ⟨D.gr, 0, none⟩) D.s D.cr, .int .i64 D.p1, .slice (some ⟨D.t1, 0, none⟩) (2 * D.p1) D.k1, .slice none 0 0, .int .i64 D.p2, .slice (some ⟨D.t2, 0, none⟩) (2 * D.p2) D.k2, .int .i64 D.p3, .slice (some ⟨D.t3, 0, none⟩) (2 * D.p3) D.k3, .slice (some ⟨D.gd, 0, none⟩) D.d D.cd, .slice (some ⟨D.gl, 0, none⟩) D.d D.cl, .pointer (some ⟨D.S, 0, none⟩)] 76))
  refine (HC.out _ _ ha hB6 (by omega) (by simp [hz5])).mono ?_
  rintro e W6 ⟨rfl, hs6, kp6⟩
  go_wp2_with fail
  go_returns
  exact ⟨rfl, hs6, (Kept.of hB6).trans kp6⟩
end Go.Proofs.Qxb6609392a
