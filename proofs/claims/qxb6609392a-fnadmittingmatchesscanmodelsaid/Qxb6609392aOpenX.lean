/-
  The arguments opened: a slice of writes and a slice of integers that came in.
-/
import Derived.Test.Qxb6609392aOpenD
namespace Go.Proofs.Qxb6609392a
open Go.RowKit Go.Deep Go.ChangeShapes Go.WideShapes

theorem Try.cells35 : Try.prog.cellsOf 35 = 7 := by kernel_rfl
theorem Try.cells4 : Try.prog.cellsOf 4 = 1 := by kernel_rfl

set_option maxRecDepth 10000 in
theorem open_wr {H : Type} {enc : TypeId × Value → H} {W : World} {fuel : Nat} {a : Option Addr} {len cap : Nat} {x : DataW H × List MemPlace}
    (h : DataW.trod enc Try.prog W 0 (fun _ => true) true fuel 22 [.slice a len cap] = some x) :
    ∃ X : Nat → Wr, SrcX W a len X ∧ len ≤ maxLen ∧ ∀ i, i < len → (Lit.int .i64 (X i).v).wf = true ∧ (Lit.int .i64 (X i).c).wf = true ∧ (Lit.int .i64 (X i).r).wf = true ∧ (Lit.int .i64 (X i).rr).wf = true := by
  rcases open_slice Try.underlying22 h with ⟨h0, _⟩ | ⟨A, l, c, m, n, D, Pl, hcs, _, hl, hm, hmm, _, hx⟩
  · simp at h0
    obtain ⟨rfl, rfl, rfl⟩ := h0
    exact ⟨fun _ => ⟨0, 0, 0, false, false, 0, 0⟩, .inl rfl, Nat.zero_le _, fun i hi => by omega⟩
  · simp at hcs
    obtain ⟨rfl, rfl, rfl⟩ := hcs
    simp at hmm
    subst hmm
    obtain ⟨X, hX⟩ := fun_of (α := Wr) ⟨0, 0, 0, false, false, 0, 0⟩ (p := fun i t => (W.cell? (A.add (i * 7)) = some (.int .i64 t.v) ∧ W.cell? (A.add (i * 7 + 1)) = some (.int .i64 t.c) ∧ W.cell? (A.add (i * 7 + 2)) = some (.int .i64 t.r) ∧ W.cell? (A.add (i * 7 + 3)) = some (.bool t.failed) ∧ W.cell? (A.add (i * 7 + 4)) = some (.bool t.read) ∧ W.cell? (A.add (i * 7 + 5)) = some (.int .i64 t.rc) ∧ W.cell? (A.add (i * 7 + 6)) = some (.int .i64 t.rr)) ∧ (Lit.int .i64 t.v).wf = true ∧ (Lit.int .i64 t.c).wf = true ∧ (Lit.int .i64 t.r).wf = true ∧ (Lit.int .i64 t.rr).wf = true) len (fun i hi => by
      obtain ⟨cs', h1, h2⟩ := hx i (by omega)
      rw [Try.cells35] at h1
      obtain ⟨_, hlen, hcell⟩ := World.cells?_some h1
      obtain ⟨ys, k, hk, hxy, _, hyl, hf⟩ := DataW.trod_struct Try.underlying35 h2
      match ys, hyl, cs', hlen with
      | [y0, y1, y2, y3, y4, y5, y6], _, [v0, v1, v2, v3, v4, v5, v6], _ =>
        have g0 := hf 0 _ rfl
        have g1 := hf 1 _ rfl
        have g2 := hf 2 _ rfl
        have g3 := hf 3 _ rfl
        have g4 := hf 4 _ rfl
        have g5 := hf 5 _ rfl
        have g6 := hf 6 _ rfl
        simp [Try.cells3, Try.cells2, Try.cells4] at g0 g1 g2 g3 g4 g5 g6
        have e0 := hcell 0 (by omega)
        have e1 := hcell 1 (by omega)
        have e2 := hcell 2 (by omega)
        have e3 := hcell 3 (by omega)
        have e4 := hcell 4 (by omega)
        have e5 := hcell 5 (by omega)
        have e6 := hcell 6 (by omega)
        rw [add_add] at e0 e1 e2 e3 e4 e5 e6
        obtain ⟨t0, ht0, _, w0⟩ := DataW.trod_int Try.underlying3 g0
        obtain ⟨t1, ht1, _, w1⟩ := DataW.trod_int Try.underlying2 g1
        obtain ⟨t2, ht2, _, w2⟩ := DataW.trod_int Try.underlying2 g2
        obtain ⟨t3, ht3, _⟩ := DataW.trod_bool Try.underlying4 g3
        obtain ⟨t4, ht4, _⟩ := DataW.trod_bool Try.underlying4 g4
        obtain ⟨t5, ht5, _, _⟩ := DataW.trod_int Try.underlying2 g5
        obtain ⟨t6, ht6, _, w6⟩ := DataW.trod_int Try.underlying2 g6
        simp at ht0 ht1 ht2 ht3 ht4 ht5 ht6
        subst ht0 ht1 ht2 ht3 ht4 ht5 ht6
        exact ⟨⟨t0, t1, t2, t3, t4, t5, t6⟩, ⟨by simpa using e0, by simpa using e1, by simpa using e2, by simpa using e3, by simpa using e4, by simpa using e5, by simpa using e6⟩, w0, w1, w2, w6⟩)
    refine ⟨X, ?_, Nat.le_trans hl hm, fun i hi => (hX i hi).2⟩
    by_cases hz : len = 0
    · exact .inl hz
    · obtain ⟨b, o, sp⟩ := A
      have hsp : sp = none := by simpa [Addr.add] using World.cell?_spot (hX 0 (by omega)).1.1
      subst hsp
      refine .inr ⟨b, o, rfl, fun k hk => ?_⟩
      obtain ⟨⟨q0, q1, q2, q3, q4, q5, q6⟩, _⟩ := hX k hk
      rw [add_plain] at q0 q1 q2 q3 q4 q5 q6
      exact ⟨q0, q1, q2, q3, q4, q5, q6⟩

set_option maxRecDepth 10000 in
theorem open_ex {H : Type} {enc : TypeId × Value → H} {W : World} {fuel : Nat} {a : Option Addr} {len cap : Nat} {x : DataW H × List MemPlace}
    (h : DataW.trod enc Try.prog W 0 (fun _ => true) true fuel 23 [.slice a len cap] = some x) : ∃ E : Nat → Int, SrcI W a len E ∧ len ≤ maxLen := by
  rcases open_slice1 Try.underlying23 Try.cells2 h with ⟨h0, _⟩ | ⟨A, l, c, m, n, V, D, Pl, hcs, _, hl, hm, hmm, _, hx⟩
  · simp at h0
    obtain ⟨rfl, rfl, rfl⟩ := h0
    exact ⟨fun _ => 0, .inl rfl, Nat.zero_le _⟩
  · simp at hcs
    obtain ⟨rfl, rfl, rfl⟩ := hcs
    simp at hmm
    subst hmm
    obtain ⟨E, hE⟩ := fun_of (α := Int) 0 (p := fun i t => W.cell? (A.add i) = some (.int .i64 t)) len (fun i hi => by
      obtain ⟨h1, h2⟩ := hx i (by omega)
      obtain ⟨t, ht, _, _⟩ := DataW.trod_int Try.underlying2 h2
      simp at ht
      exact ⟨t, by rw [h1, ht]⟩)
    refine ⟨E, ?_, Nat.le_trans hl hm⟩
    by_cases hz : len = 0
    · exact .inl hz
    · obtain ⟨b, o, sp⟩ := A
      have hsp : sp = none := by simpa [Addr.add] using World.cell?_spot (hE 0 (by omega))
      subst hsp
      refine .inr ⟨b, o, rfl, fun k hk => ?_⟩
      have q0 := hE k hk
      rw [add_plain] at q0
      exact q0
end Go.Proofs.Qxb6609392a
