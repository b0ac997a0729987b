/-
  The argument opened: a slice of topics that came in.
-/
import Derived.Test.Qxb6609287aPackWire
import Derived.Deep.Slices
import Derived.ChangeArms
import Derived.ChangeSame
namespace Go.Proofs.Qxb6609287a
open Go.RowKit Go.Shelf Go.Deep Go.ChangeShapes Go.WideShapes

theorem Try.cells58 : Try.prog.cellsOf 58 = 3 := by kernel_rfl
theorem Try.cells9 : Try.prog.cellsOf 9 = 1 := by kernel_rfl
theorem Try.cells22 : Try.prog.cellsOf 22 = 1 := by kernel_rfl

theorem list_of {α : Type} {p : Nat → α → Prop} : ∀ (n : Nat), (∀ i, i < n → ∃ x, p i x) → ∃ xs : List α, xs.length = n ∧ ∀ k x, xs[k]? = some x → p k x
  | 0, _ => ⟨[], rfl, fun k x h => by simp at h⟩
  | n + 1, h => by
    obtain ⟨xs, hl, hx⟩ := list_of n fun i hi => h i (by omega)
    obtain ⟨y, hy⟩ := h n (by omega)
    refine ⟨xs ++ [y], by simp [hl], fun k x hk => ?_⟩
    by_cases hlt : k < xs.length
    · rw [List.getElem?_append_left hlt] at hk; exact hx k x hk
    · rw [List.getElem?_append_right (by omega)] at hk
      have : k - xs.length = 0 := by
        have := (List.getElem?_eq_some_iff.1 hk).1
        simpa using this
      obtain rfl : k = n := by omega
      rw [this] at hk
      simp at hk
      subst hk; exact hy

theorem open_ts {H : Type} {enc : TypeId × Value → H} {W : World} {fuel : Nat} {a : Option Addr} {len cap : Nat} {x : DataW H × List MemPlace}
    (h : DataW.trod enc Try.prog W 0 (fun _ => true) true fuel 45 [.slice a len cap] = some x) :
    ∃ xs : List Top, SrcTS W a xs ∧ len = xs.length ∧ len ≤ cap ∧ cap ≤ maxLen ∧ ∀ x ∈ xs, x.s.size ≤ maxLen := by
  rcases open_slice Try.underlying45 h with ⟨h0, _⟩ | ⟨A, l, c, m, n, D, Pl, hcs, _, hl, hm, hmm, _, hx⟩
  · simp at h0
    obtain ⟨rfl, rfl, rfl⟩ := h0
    exact ⟨[], .inl rfl, rfl, Nat.le_refl _, Nat.zero_le _, fun x hx => by simp at hx⟩
  · simp at hcs
    obtain ⟨rfl, rfl, rfl⟩ := hcs
    simp at hmm
    subst hmm
    obtain ⟨xs, hxl, hxs⟩ := list_of (α := Top) (p := fun i t => W.cell? (A.add (i * 3)) = some (.string t.s) ∧ W.cell? (A.add (i * 3 + 1)) = some (.int .u64 t.t) ∧ W.cell? (A.add (i * 3 + 2)) = some (.int .u64 t.h) ∧ t.s.size ≤ maxLen) len (fun i hi => by
      obtain ⟨cs', h1, h2⟩ := hx i (by omega)
      rw [Try.cells58] at h1
      obtain ⟨_, hlen, hcell⟩ := World.cells?_some h1
      obtain ⟨ys, k, hk, hxy, _, hyl, hf⟩ := DataW.trod_struct Try.underlying58 h2
      match ys, hyl, cs', hlen with
      | [y0, y1, y2], _, [v0, v1, v2], _ =>
        have g0 := hf 0 _ rfl
        have g1 := hf 1 _ rfl
        have g2 := hf 2 _ rfl
        simp [Try.cells9, Try.cells22] at g0 g1 g2
        have e0 := hcell 0 (by omega)
        have e1 := hcell 1 (by omega)
        have e2 := hcell 2 (by omega)
        rw [add_add] at e0 e1 e2
        obtain ⟨s, hs, _, hsz⟩ := DataW.trod_string Try.underlying9 g0
        obtain ⟨t1, ht1, _, _⟩ := DataW.trod_int Try.underlying22 g1
        obtain ⟨t2, ht2, _, _⟩ := DataW.trod_int Try.underlying22 g2
        simp at hs ht1 ht2
        subst hs ht1 ht2
        exact ⟨⟨s, t1, t2⟩, by simpa using e0, by simpa using e1, by simpa using e2, hsz⟩)
    refine ⟨xs, ?_, hxl.symm, hl, hm, fun x hx => ?_⟩
    · match xs, hxl, hxs with
      | [], _, _ => exact .inl rfl
      | y :: ys, _, hxs =>
        obtain ⟨b, o, sp⟩ := A
        have hsp : sp = none := by simpa [Addr.add] using World.cell?_spot (hxs 0 y rfl).1
        subst hsp
        exact .inr ⟨b, o, rfl, fun k x hk => by
          obtain ⟨q0, q1, q2, _⟩ := hxs k x hk
          rw [add_plain] at q0 q1 q2
          exact ⟨q0, q1, q2⟩⟩
    · obtain ⟨i, hi, rfl⟩ := List.getElem_of_mem hx
      exact (hxs i _ (List.getElem?_eq_getElem hi)).2.2.2
end Go.Proofs.Qxb6609287a
