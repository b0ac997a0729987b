/-
  The argument opened: a slice of completed writes that came in.
-/
import Derived.Test.Qxb6609392aCompA
import Derived.Deep.Slices
import Derived.ChangeArms
import Derived.ChangeSame
namespace Go.Proofs.Qxb6609392a
open Go.RowKit Go.Deep Go.ChangeShapes Go.WideShapes

theorem Try.cells32 : Try.prog.cellsOf 32 = 3 := by kernel_rfl
theorem Try.cells3 : Try.prog.cellsOf 3 = 1 := by kernel_rfl
theorem Try.cells2 : Try.prog.cellsOf 2 = 1 := by kernel_rfl

theorem fun_of {α : Type} (z : α) {p : Nat → α → Prop} (n : Nat) (h : ∀ i, i < n → ∃ x, p i x) : ∃ f : Nat → α, ∀ i, i < n → p i (f i) :=
  ⟨fun i => if hi : i < n then Classical.choose (h i hi) else z, fun i hi => by
    simp only [hi, dif_pos]
    exact Classical.choose_spec (h i hi)⟩

theorem wf_low {x : Int} (h : (Lit.int .i64 x).wf = true) : -9223372036854775808 ≤ x ∧ x ≤ 9223372036854775807 := by
  have h1 : IntKind.i64.min = -9223372036854775808 := by decide
  have h2 : IntKind.i64.max = 9223372036854775807 := by decide
  simp only [Lit.wf, Bool.and_eq_true, decide_eq_true_eq] at h
  omega

set_option maxRecDepth 10000 in
theorem open_dn {H : Type} {enc : TypeId × Value → H} {W : World} {fuel : Nat} {a : Option Addr} {len cap : Nat} {x : DataW H × List MemPlace}
    (h : DataW.trod enc Try.prog W 0 (fun _ => true) true fuel 29 [.slice a len cap] = some x) :
    ∃ Y : Nat → Dn, SrcD W a len Y ∧ len ≤ maxLen ∧ ∀ i, i < len → (Lit.int .i64 (Y i).v).wf = true ∧ (Lit.int .i64 (Y i).r).wf = true := by
  rcases open_slice Try.underlying29 h with ⟨h0, _⟩ | ⟨A, l, c, m, n, D, Pl, hcs, _, hl, hm, hmm, _, hx⟩
  · simp at h0
    obtain ⟨rfl, rfl, rfl⟩ := h0
    exact ⟨fun _ => ⟨0, 0, 0⟩, .inl rfl, Nat.zero_le _, fun i hi => by omega⟩
  · simp at hcs
    obtain ⟨rfl, rfl, rfl⟩ := hcs
    simp at hmm
    subst hmm
    obtain ⟨Y, hY⟩ := fun_of (α := Dn) ⟨0, 0, 0⟩ (p := fun i t => W.cell? (A.add (i * 3)) = some (.int .i64 t.v) ∧ W.cell? (A.add (i * 3 + 1)) = some (.int .i64 t.c) ∧ W.cell? (A.add (i * 3 + 2)) = some (.int .i64 t.r) ∧ (Lit.int .i64 t.v).wf = true ∧ (Lit.int .i64 t.r).wf = true) len (fun i hi => by
      obtain ⟨cs', h1, h2⟩ := hx i (by omega)
      rw [Try.cells32] at h1
      obtain ⟨_, hlen, hcell⟩ := World.cells?_some h1
      obtain ⟨ys, k, hk, hxy, _, hyl, hf⟩ := DataW.trod_struct Try.underlying32 h2
      match ys, hyl, cs', hlen with
      | [y0, y1, y2], _, [v0, v1, v2], _ =>
        have g0 := hf 0 _ rfl
        have g1 := hf 1 _ rfl
        have g2 := hf 2 _ rfl
        simp [Try.cells3, Try.cells2] at g0 g1 g2
        have e0 := hcell 0 (by omega)
        have e1 := hcell 1 (by omega)
        have e2 := hcell 2 (by omega)
        rw [add_add] at e0 e1 e2
        obtain ⟨t0, ht0, _, w0⟩ := DataW.trod_int Try.underlying3 g0
        obtain ⟨t1, ht1, _, _⟩ := DataW.trod_int Try.underlying2 g1
        obtain ⟨t2, ht2, _, w2⟩ := DataW.trod_int Try.underlying2 g2
        simp at ht0 ht1 ht2
        subst ht0 ht1 ht2
        exact ⟨⟨t0, t1, t2⟩, by simpa using e0, by simpa using e1, by simpa using e2, w0, w2⟩)
    refine ⟨Y, ?_, Nat.le_trans hl hm, fun i hi => (hY i hi).2.2.2⟩
    by_cases hz : len = 0
    · exact .inl hz
    · obtain ⟨b, o, sp⟩ := A
      have hsp : sp = none := by simpa [Addr.add] using World.cell?_spot (hY 0 (by omega)).1
      subst hsp
      refine .inr ⟨b, o, rfl, fun k hk => ?_⟩
      obtain ⟨q0, q1, q2, _⟩ := hY k hk
      rw [add_plain] at q0 q1 q2
      exact ⟨q0, q1, q2⟩
end Go.Proofs.Qxb6609392a
