/-
  choicesOf: the writes that a read may be offered.
-/
import Derived.Test.Qxb6609392aSrch
namespace Go.Proofs.Qxb6609392a
open Go.RowKit

/-- Map gm of W hands out the spans T. -/
def MapAt (W : World) (gm : Nat) (T : Int → Nat × Nat) : Prop :=
  ∃ es cl, W.heap[gm]? = some (.map es cl) ∧ ∀ W' : World, W'.heap[gm]? = some (.map es cl) → ∀ k, (Lit.int .i64 k).wf = true → (Instr.lookup 40 (.map (some gm)) (.int .i64 k) false).run Try.prog W' = .ok (.agg #[.int .i64 (T k).1, .int .i64 (T k).2]) W'

theorem MapAt.keep {W W' : World} {gm : Nat} {T : Int → Nat × Nat} (h : MapAt W gm T) (hB : Below W.heap.size W W') : MapAt W' gm T := by
  obtain ⟨es, cl, h1, h2⟩ := h
  exact ⟨es, cl, (hB.block gm (Array.getElem?_eq_some_iff.1 h1).1).trans h1, h2⟩
theorem MapAt.run {W W' : World} {gm : Nat} {T : Int → Nat × Nat} (h : MapAt W gm T) (hB : Below W.heap.size W W') (k : Int) (hk : (Lit.int .i64 k).wf = true) : (Instr.lookup 40 (.map (some gm)) (.int .i64 k) false).run Try.prog W' = .ok (.agg #[.int .i64 (T k).1, .int .i64 (T k).2]) W' := by
  obtain ⟨es, cl, h1, h2⟩ := h
  exact h2 W' ((hB.block gm (Array.getElem?_eq_some_iff.1 h1).1).trans h1) k hk

theorem six {W : World} {b n : Nat} {a0 v0 a1 v1 a2 v2 a3 v3 a4 v4 a5 v5 : Value} (q0 : W.cell? ⟨b, 0, none⟩ = some a0) (q1 : W.cell? ⟨b, 1, none⟩ = some a1) (q2 : W.cell? ⟨b, 2, none⟩ = some a2) (q3 : W.cell? ⟨b, 3, none⟩ = some a3) (q4 : W.cell? ⟨b, 4, none⟩ = some a4) (q5 : W.cell? ⟨b, 5, none⟩ = some a5) (hn : n ≤ b) :
    ((((((W.setCell ⟨b, 0, none⟩ v0).setCell ⟨b, 1, none⟩ v1).setCell ⟨b, 2, none⟩ v2).setCell ⟨b, 3, none⟩ v3).setCell ⟨b, 4, none⟩ v4).setCell ⟨b, 5, none⟩ v5).cell? ⟨b, 0, none⟩ = some v0 ∧ ((((((W.setCell ⟨b, 0, none⟩ v0).setCell ⟨b, 1, none⟩ v1).setCell ⟨b, 2, none⟩ v2).setCell ⟨b, 3, none⟩ v3).setCell ⟨b, 4, none⟩ v4).setCell ⟨b, 5, none⟩ v5).cell? ⟨b, 1, none⟩ = some v1 ∧ ((((((W.setCell ⟨b, 0, none⟩ v0).setCell ⟨b, 1, none⟩ v1).setCell ⟨b, 2, none⟩ v2).setCell ⟨b, 3, none⟩ v3).setCell ⟨b, 4, none⟩ v4).setCell ⟨b, 5, none⟩ v5).cell? ⟨b, 2, none⟩ = some v2 ∧ ((((((W.setCell ⟨b, 0, none⟩ v0).setCell ⟨b, 1, none⟩ v1).setCell ⟨b, 2, none⟩ v2).setCell ⟨b, 3, none⟩ v3).setCell ⟨b, 4, none⟩ v4).setCell ⟨b, 5, none⟩ v5).cell? ⟨b, 3, none⟩ = some v3 ∧ ((((((W.setCell ⟨b, 0, none⟩ v0).setCell ⟨b, 1, none⟩ v1).setCell ⟨b, 2, none⟩ v2).setCell ⟨b, 3, none⟩ v3).setCell ⟨b, 4, none⟩ v4).setCell ⟨b, 5, none⟩ v5).cell? ⟨b, 4, none⟩ = some v4 ∧ ((((((W.setCell ⟨b, 0, none⟩ v0).setCell ⟨b, 1, none⟩ v1).setCell ⟨b, 2, none⟩ v2).setCell ⟨b, 3, none⟩ v3).setCell ⟨b, 4, none⟩ v4).setCell ⟨b, 5, none⟩ v5).cell? ⟨b, 5, none⟩ = some v5 ∧ Below n W ((((((W.setCell ⟨b, 0, none⟩ v0).setCell ⟨b, 1, none⟩ v1).setCell ⟨b, 2, none⟩ v2).setCell ⟨b, 3, none⟩ v3).setCell ⟨b, 4, none⟩ v4).setCell ⟨b, 5, none⟩ v5) :=
  ⟨(set_far (set_far (set_far (set_far (set_far (World.cell?_setCell_same _ _ _ q0) (by simp)) (by simp)) (by simp)) (by simp)) (by simp)), (set_far (set_far (set_far (set_far (World.cell?_setCell_same _ _ _ (set_far q1 (by simp))) (by simp)) (by simp)) (by simp)) (by simp)), (set_far (set_far (set_far (World.cell?_setCell_same _ _ _ (set_far (set_far q2 (by simp)) (by simp))) (by simp)) (by simp)) (by simp)), (set_far (set_far (World.cell?_setCell_same _ _ _ (set_far (set_far (set_far q3 (by simp)) (by simp)) (by simp))) (by simp)) (by simp)), (set_far (World.cell?_setCell_same _ _ _ (set_far (set_far (set_far (set_far q4 (by simp)) (by simp)) (by simp)) (by simp))) (by simp)), (World.cell?_setCell_same _ _ _ (set_far (set_far (set_far (set_far (set_far q5 (by simp)) (by simp)) (by simp)) (by simp)) (by simp))), ((((((Below.refl n W).setCell (p := ⟨b, 0, none⟩) hn v0).setCell (p := ⟨b, 1, none⟩) hn v1).setCell (p := ⟨b, 2, none⟩) hn v2).setCell (p := ⟨b, 3, none⟩) hn v3).setCell (p := ⟨b, 4, none⟩) hn v4).setCell (p := ⟨b, 5, none⟩) hn v5⟩

/-- The choices that the read has. -/
def choicesF (D : AD) (T : Int → Nat × Nat) (v rc rr : Int) : Ch :=
  { fr := (T v).1, re := (T v).1 + bs (fun k => D.call ((T v).1 + k)) (rr + 1) ((T v).2 - (T v).1), id := (T v).1 + bs (fun k => D.call ((T v).1 + k)) (rr + 1) ((T v).2 - (T v).1), bd := bs D.R (lcb D.OR D.OL rc D.d) D.s, cl := rc, mg := false }

set_option maxHeartbeats 4000000 in
theorem choices_fn (A : Nat) (D : AD) (T : Int → Nat × Nat) (b f : Bool) (v rc rr sl : Int) (w : World) (h : Asg w A D) (ok : D.Ok) (hm : MapAt w D.gm T) (hwv : (Lit.int .i64 v).wf = true) (hT : (T v).1 ≤ (T v).2) (hT2 : (T v).2 ≤ D.n) (hmono : ∀ a b, (T v).1 ≤ a → a ≤ b → b < (T v).2 → D.call a ≤ D.call b) :
    Calls Try.prog 28 #[.pointer (some ⟨A, 0, none⟩), rdVal b f v rc rr sl] w fun e w' =>
      e = .returned (.agg #[.int .i64 (choicesF D T v rc rr).fr, .int .i64 (choicesF D T v rc rr).re, .int .i64 (choicesF D T v rc rr).id, .int .i64 (choicesF D T v rc rr).bd, .int .i64 rc, .bool false]) ∧ Below w.heap.size w w' := by
  unfold rdVal
  have hn := ok.hn
  have hss := ok.hs
  unfold choicesF
  simp only
  have hsn : (T v).1 + ((T v).2 - (T v).1) ≤ D.n := by omega
  have hmono2 : ∀ a b, a ≤ b → b < (T v).2 - (T v).1 → D.call ((T v).1 + a) ≤ D.call ((T v).1 + b) := fun a b h1 h2 => hmono _ _ (by omega) (by omega) (by omega)
  have hcb : bs (fun k => D.call ((T v).1 + k)) (rr + 1) ((T v).2 - (T v).1) ≤ (T v).2 - (T v).1 := (bs_spec _ _ _ hmono2).1
  have hbb : bs D.R (lcb D.OR D.OL rc D.d) D.s ≤ D.s := (bs_spec _ _ _ ok.sortR).1
  generalize hCB : bs (fun k => D.call ((T v).1 + k)) (rr + 1) ((T v).2 - (T v).1) = cb at *
  generalize hBD : bs D.R (lcb D.OR D.OL rc D.d) D.s = bd at *
  have HCB : Hid _ := hCB
  have HBD : Hid _ := hBD
  clear hCB hBD
  have OK : Hid _ := ok
  clear ok
  go_enter Try.func28, Try.ntmps28
  go_wp2_with fail
  have hb1 := below3 w (.cells #[.pointer (some ⟨A, 0, none⟩)] 69) (.cells #[.bool b, .int .i64 v, .int .i64 rc, .int .i64 rr, .bool f, .int .i64 sl] 57) (.cells #[.int .i64 0, .int .i64 0, .int .i64 0, .int .i64 0, .int .i64 0, .bool false] 81)
  have ba : (((w.alloc (.cells #[.pointer (some ⟨A, 0, none⟩)] 69)).alloc (.cells #[.bool b, .int .i64 v, .int .i64 rc, .int .i64 rr, .bool f, .int .i64 sl] 57)).alloc (.cells #[.int .i64 0, .int .i64 0, .int .i64 0, .int .i64 0, .int .i64 0, .bool false] 81)).cell? ⟨w.heap.size, 0, none⟩ = some (.pointer (some ⟨A, 0, none⟩)) := by simp [go_sem]
  have r1 : (((w.alloc (.cells #[.pointer (some ⟨A, 0, none⟩)] 69)).alloc (.cells #[.bool b, .int .i64 v, .int .i64 rc, .int .i64 rr, .bool f, .int .i64 sl] 57)).alloc (.cells #[.int .i64 0, .int .i64 0, .int .i64 0, .int .i64 0, .int .i64 0, .bool false] 81)).cell? ⟨w.heap.size + 1, 1, none⟩ = some (.int .i64 v) := by simp [go_sem]
  have r2 : (((w.alloc (.cells #[.pointer (some ⟨A, 0, none⟩)] 69)).alloc (.cells #[.bool b, .int .i64 v, .int .i64 rc, .int .i64 rr, .bool f, .int .i64 sl] 57)).alloc (.cells #[.int .i64 0, .int .i64 0, .int .i64 0, .int .i64 0, .int .i64 0, .bool false] 81)).cell? ⟨w.heap.size + 1, 2, none⟩ = some (.int .i64 rc) := by simp [go_sem]
  have r3 : (((w.alloc (.cells #[.pointer (some ⟨A, 0, none⟩)] 69)).alloc (.cells #[.bool b, .int .i64 v, .int .i64 rc, .int .i64 rr, .bool f, .int .i64 sl] 57)).alloc (.cells #[.int .i64 0, .int .i64 0, .int .i64 0, .int .i64 0, .int .i64 0, .bool false] 81)).cell? ⟨w.heap.size + 1, 3, none⟩ = some (.int .i64 rr) := by simp [go_sem]
  have e0 : (((w.alloc (.cells #[.pointer (some ⟨A, 0, none⟩)] 69)).alloc (.cells #[.bool b, .int .i64 v, .int .i64 rc, .int .i64 rr, .bool f, .int .i64 sl] 57)).alloc (.cells #[.int .i64 0, .int .i64 0, .int .i64 0, .int .i64 0, .int .i64 0, .bool false] 81)).cell? ⟨w.heap.size + 1 + 1, 0, none⟩ = some (.int .i64 0) := by simp [go_sem]
  have z0 : (((w.alloc (.cells #[.pointer (some ⟨A, 0, none⟩)] 69)).alloc (.cells #[.bool b, .int .i64 v, .int .i64 rc, .int .i64 rr, .bool f, .int .i64 sl] 57)).alloc (.cells #[.int .i64 0, .int .i64 0, .int .i64 0, .int .i64 0, .int .i64 0, .bool false] 81)).frozen? ⟨w.heap.size + 1 + 1, 0, none⟩ = false := by simp [go_sem]
  have e1 : (((w.alloc (.cells #[.pointer (some ⟨A, 0, none⟩)] 69)).alloc (.cells #[.bool b, .int .i64 v, .int .i64 rc, .int .i64 rr, .bool f, .int .i64 sl] 57)).alloc (.cells #[.int .i64 0, .int .i64 0, .int .i64 0, .int .i64 0, .int .i64 0, .bool false] 81)).cell? ⟨w.heap.size + 1 + 1, 1, none⟩ = some (.int .i64 0) := by simp [go_sem]
  have z1 : (((w.alloc (.cells #[.pointer (some ⟨A, 0, none⟩)] 69)).alloc (.cells #[.bool b, .int .i64 v, .int .i64 rc, .int .i64 rr, .bool f, .int .i64 sl] 57)).alloc (.cells #[.int .i64 0, .int .i64 0, .int .i64 0, .int .i64 0, .int .i64 0, .bool false] 81)).frozen? ⟨w.heap.size + 1 + 1, 1, none⟩ = false := by simp [go_sem]
  have e2 : (((w.alloc (.cells #[.pointer (some ⟨A, 0, none⟩)] 69)).alloc (.cells #[.bool b, .int .i64 v, .int .i64 rc, .int .i64 rr, .bool f, .int .i64 sl] 57)).alloc (.cells #[.int .i64 0, .int .i64 0, .int .i64 0, .int .i64 0, .int .i64 0, .bool false] 81)).cell? ⟨w.heap.size + 1 + 1, 2, none⟩ = some (.int .i64 0) := by simp [go_sem]
  have z2 : (((w.alloc (.cells #[.pointer (some ⟨A, 0, none⟩)] 69)).alloc (.cells #[.bool b, .int .i64 v, .int .i64 rc, .int .i64 rr, .bool f, .int .i64 sl] 57)).alloc (.cells #[.int .i64 0, .int .i64 0, .int .i64 0, .int .i64 0, .int .i64 0, .bool false] 81)).frozen? ⟨w.heap.size + 1 + 1, 2, none⟩ = false := by simp [go_sem]
  have e3 : (((w.alloc (.cells #[.pointer (some ⟨A, 0, none⟩)] 69)).alloc (.cells #[.bool b, .int .i64 v, .int .i64 rc, .int .i64 rr, .bool f, .int .i64 sl] 57)).alloc (.cells #[.int .i64 0, .int .i64 0, .int .i64 0, .int .i64 0, .int .i64 0, .bool false] 81)).cell? ⟨w.heap.size + 1 + 1, 3, none⟩ = some (.int .i64 0) := by simp [go_sem]
  have z3 : (((w.alloc (.cells #[.pointer (some ⟨A, 0, none⟩)] 69)).alloc (.cells #[.bool b, .int .i64 v, .int .i64 rc, .int .i64 rr, .bool f, .int .i64 sl] 57)).alloc (.cells #[.int .i64 0, .int .i64 0, .int .i64 0, .int .i64 0, .int .i64 0, .bool false] 81)).frozen? ⟨w.heap.size + 1 + 1, 3, none⟩ = false := by simp [go_sem]
  have e4 : (((w.alloc (.cells #[.pointer (some ⟨A, 0, none⟩)] 69)).alloc (.cells #[.bool b, .int .i64 v, .int .i64 rc, .int .i64 rr, .bool f, .int .i64 sl] 57)).alloc (.cells #[.int .i64 0, .int .i64 0, .int .i64 0, .int .i64 0, .int .i64 0, .bool false] 81)).cell? ⟨w.heap.size + 1 + 1, 4, none⟩ = some (.int .i64 0) := by simp [go_sem]
  have z4 : (((w.alloc (.cells #[.pointer (some ⟨A, 0, none⟩)] 69)).alloc (.cells #[.bool b, .int .i64 v, .int .i64 rc, .int .i64 rr, .bool f, .int .i64 sl] 57)).alloc (.cells #[.int .i64 0, .int .i64 0, .int .i64 0, .int .i64 0, .int .i64 0, .bool false] 81)).frozen? ⟨w.heap.size + 1 + 1, 4, none⟩ = false := by simp [go_sem]
  have e5 : (((w.alloc (.cells #[.pointer (some ⟨A, 0, none⟩)] 69)).alloc (.cells #[.bool b, .int .i64 v, .int .i64 rc, .int .i64 rr, .bool f, .int .i64 sl] 57)).alloc (.cells #[.int .i64 0, .int .i64 0, .int .i64 0, .int .i64 0, .int .i64 0, .bool false] 81)).cell? ⟨w.heap.size + 1 + 1, 5, none⟩ = some (.bool false) := by simp [go_sem]
  have z5 : (((w.alloc (.cells #[.pointer (some ⟨A, 0, none⟩)] 69)).alloc (.cells #[.bool b, .int .i64 v, .int .i64 rc, .int .i64 rr, .bool f, .int .i64 sl] 57)).alloc (.cells #[.int .i64 0, .int .i64 0, .int .i64 0, .int .i64 0, .int .i64 0, .bool false] 81)).frozen? ⟨w.heap.size + 1 + 1, 5, none⟩ = false := by simp [go_sem]
  generalize (((w.alloc (.cells #[.pointer (some ⟨A, 0, none⟩)] 69)).alloc (.cells #[.bool b, .int .i64 v, .int .i64 rc, .int .i64 rr, .bool f, .int .i64 sl] 57)).alloc (.cells #[.int .i64 0, .int .i64 0, .int .i64 0, .int .i64 0, .int .i64 0, .bool false] 81)) = W1 at *
  have h1 := h.keep hb1
  have m1 := hm.keep hb1
  have y3 := h1.c3
  have hl0 := m1.run (Below.refl _ W1).drew v hwv
  have hl1 : ∀ o, (Instr.lookup 40 (.map (some D.gm)) (.int .i64 v) false).run Try.prog (W1.drew.alloc o) = _ := fun o => m1.run ((Below.refl _ W1).drew.alloc (Nat.le_refl _) o) v hwv
  have hl2 : ∀ o, (Instr.lookup 40 (.map (some D.gm)) (.int .i64 v) false).run Try.prog (W1.alloc o).drew = _ := fun o => m1.run (below1 W1 o).drew v hwv
  have ba' := cell_alloc_any ba
  have r1' := cell_alloc_any r1
  have y3' := cell_alloc_any y3
  have H : Hid _ := h
  have H1 : Hid _ := h1
  have M1 : Hid _ := m1
  clear h h1 m1 hm hwv
  go_region
  go_wp2_with fail
  have hb2 : Below w.heap.size w (W1.alloc (.cells #[.int .i64 (T v).1, .int .i64 (T v).2] 51)).drew := (below_trans hb1 (below1 W1 _)).drew
  have hb12 : Below W1.heap.size W1 (W1.alloc (.cells #[.int .i64 (T v).1, .int .i64 (T v).2] 51)).drew := (below1 W1 _).drew
  have sp0 : (W1.alloc (.cells #[.int .i64 (T v).1, .int .i64 (T v).2] 51)).drew.cell? ⟨W1.heap.size, 0, none⟩ = some (.int .i64 (T v).1) := by simp [go_sem]
  have sp1 : (W1.alloc (.cells #[.int .i64 (T v).1, .int .i64 (T v).2] 51)).drew.cell? ⟨W1.heap.size, 1, none⟩ = some (.int .i64 (T v).2) := by simp [go_sem]
  generalize (W1.alloc (.cells #[.int .i64 (T v).1, .int .i64 (T v).2] 51)).drew = W2 at *
  have n2 : Nonempty (BW W2) := ⟨⟨W2, Below.refl _ _⟩⟩
  have s0 := BW.cell sp0
  have s1 := BW.cell sp1
  clear hl0 hl1 hl2 ba' r1' y3'
  refine region_bw (by kernel_rfl) (by kernel_rfl) ?_
  have a2 := H.out.keep hb2
  have k1 : ∀ m : BW W2, Calls Try.prog 31 #[.int .i64 ((T v).2 - (T v).1), .func (.func 32) #[] #[.pointer (some ⟨w.heap.size, 0, none⟩), .pointer (some ⟨W1.heap.size, 0, none⟩), .pointer (some ⟨w.heap.size + 1, 0, none⟩)]] m.W fun e w'' => e = .returned (.int .i64 cb) ∧ ∃ m : BW W2, w'' = m.W := fun m => by
    have := search_fn A w.heap.size W1.heap.size (w.heap.size + 1) D (T v).1 ((T v).2 - (T v).1) rr m.W (a2.keep m.ok) hsn hn hmono2 (cell_keep m.ok (cell_keep hb12 ba)) (cell_keep m.ok sp0) (cell_keep m.ok (cell_keep hb12 r3))
    rw [show (((T v).2 - (T v).1 : Nat) : Int) = ((T v).2 : Int) - (T v).1 from by omega, HCB.out] at this
    exact Calls.bw this
  have K1 : Hid _ := k1
  clear k1
  repeat (go_big_quiet_step (with_reducible exact K1.out _))
  refine wpQuiet_nil ?_
  rintro W3 ⟨⟨_, B3⟩, rfl⟩
  have hb3 := below_trans hb2 B3
  have hb13 := below_trans hb12 B3
  have a3 := H.out.keep hb3
  have ba3 := cell_keep hb13 ba
  have r23 := cell_keep hb13 r2
  have sp3 := cell_keep B3 sp0
  clear K1 s0 s1 n2 a2
  go_wp2_with fail
  have n3 : Nonempty (BW W3) := ⟨⟨W3, Below.refl _ _⟩⟩
  have x1 := BW.cell ba3
  have x2 := BW.cell r23
  have y5 := BW.cell a3.c5
  have y13 := BW.cell a3.c13
  have y14 := BW.cell a3.c14
  have k2 : ∀ m : BW W3, Calls Try.prog 34 #[.agg #[.slice (some ⟨D.gd, 0, none⟩) D.d D.cd, .slice (some ⟨D.gl, 0, none⟩) D.d D.cl], .int .i64 rc] m.W fun e w'' => e = .returned (.int .i64 (lcb D.OR D.OL rc D.d)) ∧ ∃ m : BW W3, w'' = m.W :=
    fun m => Calls.bw (latest_fn D.gd D.cd D.gl D.cl D.d D.OR D.OL rc m.W (a3.o.keep m.ok) (a3.l.keep m.ok) (by have := OK.out.hd; omega) OK.out.sortO)
  have k3 : ∀ m : BW W3, Calls Try.prog 33 #[.slice (some ⟨D.gr, 0, none⟩) D.s D.cr, .int .i64 (lcb D.OR D.OL rc D.d)] m.W fun e w'' => e = .returned (.tuple #[.int .i64 bd, .bool (decide (bd < D.s ∧ D.R bd = lcb D.OR D.OL rc D.d))]) ∧ ∃ m : BW W3, w'' = m.W :=
    fun m => by
    rw [← HBD.out]
    exact Calls.bw ((bsearch_fn D.gr D.s D.cr D.R (lcb D.OR D.OL rc D.d) m.W (a3.r.keep m.ok) (by omega) OK.out.sortR).mono fun _ _ ⟨e1, e2⟩ => ⟨e1, by rw [e2]; exact Below.refl _ _⟩)
  clear HBD
  generalize decide (bd < D.s ∧ D.R bd = lcb D.OR D.OL rc D.d) = fb at *
  generalize lcb D.OR D.OL rc D.d = lc at *
  have K2 : Hid _ := k2
  have K3 : Hid _ := k3
  clear k2 k3
  refine region_bw (by kernel_rfl) (by kernel_rfl) ?_
  repeat (go_big_quiet_step (first | (with_reducible exact K2.out _) | (with_reducible exact K3.out _)))
  refine wpQuiet_nil ?_
  rintro W4 ⟨⟨_, B4⟩, rfl⟩
  have hb4 := below_trans hb3 B4
  have hb14 := below_trans hb13 B4
  have r24 := cell_keep B4 r23
  have sp4 := cell_keep B4 sp3
  have q0 := cell_keep hb14 e0
  have q1 := cell_keep hb14 e1
  have q2 := cell_keep hb14 e2
  have q3 := cell_keep hb14 e3
  have q4 := cell_keep hb14 e4
  have q5 := cell_keep hb14 e5
  have hlt : w.heap.size + 1 + 1 < W1.heap.size := World.block_lt_of_cell? W1 _ e0
  have u0 := (hb14.frozen (p := ⟨w.heap.size + 1 + 1, 0, none⟩) hlt).trans z0
  have u1 := (hb14.frozen (p := ⟨w.heap.size + 1 + 1, 1, none⟩) hlt).trans z1
  have u2 := (hb14.frozen (p := ⟨w.heap.size + 1 + 1, 2, none⟩) hlt).trans z2
  have u3 := (hb14.frozen (p := ⟨w.heap.size + 1 + 1, 3, none⟩) hlt).trans z3
  have u4 := (hb14.frozen (p := ⟨w.heap.size + 1 + 1, 4, none⟩) hlt).trans z4
  have u5 := (hb14.frozen (p := ⟨w.heap.size + 1 + 1, 5, none⟩) hlt).trans z5
  clear K2 K3 x1 x2 y5 y13 y14 n3 e0 e1 e2 e3 e4 e5 z0 z1 z2 z3 z4 z5 ba r1 r2 r3 ba3 r23 sp3 sp0 sp1
  go_wp2_with fail
  obtain ⟨g0, g1, g2, g3, g4, g5, hb5⟩ := six (v0 := .int .i64 (T v).1) (v1 := .int .i64 (((T v).1 : Int) + cb)) (v2 := .int .i64 (((T v).1 : Int) + cb)) (v3 := .int .i64 bd) (v4 := .int .i64 rc) (v5 := .bool false) (n := w.heap.size) q0 q1 q2 q3 q4 q5 (by omega)
  clear q0 q1 q2 q3 q4 q5 u0 u1 u2 u3 u4 u5
  generalize ((((((W4.setCell ⟨w.heap.size + 1 + 1, 0, none⟩ (.int .i64 (T v).1)).setCell ⟨w.heap.size + 1 + 1, 1, none⟩ (.int .i64 (((T v).1 : Int) + cb))).setCell ⟨w.heap.size + 1 + 1, 2, none⟩ (.int .i64 (((T v).1 : Int) + cb))).setCell ⟨w.heap.size + 1 + 1, 3, none⟩ (.int .i64 bd)).setCell ⟨w.heap.size + 1 + 1, 4, none⟩ (.int .i64 rc)).setCell ⟨w.heap.size + 1 + 1, 5, none⟩ (.bool false)) = W5 at *
  refine bodyPost_ret (by simp [results, Try.results28, go_sem, g0, g1, g2, g3, g4, g5]; rfl) rfl ?_
  exact ⟨rfl, hb4.trans hb5⟩
end Go.Proofs.Qxb6609392a
