/-
  The map of spans.
-/
import Derived.Test.Qxb6609392aZZ
import Derived.Maps.OwnOps
import Derived.Maps.Views
namespace Go.Proofs.Qxb6609392a
open Go.RowKit Go.Maps

/-- How a span reads. -/
def spanList (l : List Value) : Option (DataW Unit × List MemPlace) := match l with
  | [.int .i64 a, .int .i64 b] => some (.agg [.lit (.int .i64 a), .lit (.int .i64 b)], [])
  | _ => none
def spanElem (v : Value) : Option (DataW Unit × List MemPlace) := match v with
  | .agg cs => spanList cs.toList
  | _ => none
theorem spanElem_mk (a b : Int) : spanElem (.agg #[.int .i64 a, .int .i64 b]) = some (.agg [.lit (.int .i64 a), .lit (.int .i64 b)], []) := rfl
theorem spanElem_inv {v : Value} {a b : Int} {ps : List MemPlace} (h : spanElem v = some (.agg [.lit (.int .i64 a), .lit (.int .i64 b)], ps)) : v = .agg #[.int .i64 a, .int .i64 b] := by
  unfold spanElem at h
  split at h
  · rename_i cs
    unfold spanList at h
    split at h
    · rename_i a' b' e
      simp at h
      obtain ⟨⟨rfl, rfl⟩, _⟩ := h
      congr 1
      exact Array.ext' e
    · simp at h
  · simp at h

theorem law3 : Keyed Try.prog 3 := int_keyed Try.underlying3

/-- Block b is a map of at most n spans that hands out T. -/
def SpanMap (W : World) (b n : Nat) (T : Int → Nat × Nat) : Prop :=
  ∃ D : DataW Unit, W.ownsMap Try.prog 3 spanElem b n D ∧ Maps.IsMap D ∧ ∀ k, D.atKey (.int .i64 k) (.agg [.lit (.int .i64 0), .lit (.int .i64 0)]) = .agg [.lit (.int .i64 (T k).1), .lit (.int .i64 (T k).2)]

theorem SpanMap.made (w : World) : SpanMap (w.alloc (.map #[] 0)) w.heap.size 0 (fun _ => (0, 0)) :=
  ⟨.map [], World.ownsMap_made w Try.prog 3 spanElem, ⟨[], rfl⟩, fun k => by simp [DataW.atKey]⟩

theorem keyOf3 {k : Int} (hk : (Lit.int .i64 k).wf = true) : keyOf Try.prog 3 (.int .i64 k) = some (.int .i64 k) := by
  simp [keyOf, mapKey, Try.underlying3, hk]

theorem SpanMap.update {w : World} {b n : Nat} {T : Int → Nat × Nat} (h : SpanMap w b n T) (hn : n < maxLen) {k : Int} (hk : (Lit.int .i64 k).wf = true) (x y : Nat) :
    ∃ w', (Instr.mapUpdate 40 (.map (some b)) (.int .i64 k) (.agg #[.int .i64 x, .int .i64 y])).run Try.prog w = .ok () w' ∧ SpanMap w' b (n + 1) (fun q => if q = k then (x, y) else T q) ∧ w.grownBy w' (some b) := by
  obtain ⟨D, h1, h2, h3⟩ := h
  obtain ⟨w', e1, e2, e3⟩ := h1.update law3 Try.underlying40 hn (keyOf3 hk) (spanElem_mk x y)
  refine ⟨w', e1, ⟨_, e2, ?_, fun q => ?_⟩, e3⟩
  · obtain ⟨es, rfl⟩ := h2
    exact ⟨_, rfl⟩
  · by_cases e : q = k
    · subst e
      rw [atKey_put_same h2 (law3.key (keyOf3 hk))]
      simp
    · rw [atKey_put_other (by intro x; cases x; exact e rfl), h3 q]
      simp [e]

theorem zero51 (w : World) : (zeroValue 51).run Try.prog w = .ok (.agg #[.int .i64 0, .int .i64 0]) w := by kernel_rfl

theorem SpanMap.at {w : World} {b n : Nat} {T : Int → Nat × Nat} (h : SpanMap w b n T) : MapAt w b T := by
  obtain ⟨D, ⟨es, cl, h0, F, hs, hD⟩, h2, h3⟩ := h
  refine ⟨es, cl, h0, fun W' hW' k hk => ?_⟩
  have ho : W'.ownsMap Try.prog 3 spanElem b n D := ⟨es, cl, hW', F, hs, hD⟩
  obtain ⟨v, ps, e1, e2⟩ := ho.lookup law3 Try.underlying40 (zero51 W') (spanElem_mk 0 0) (keyOf3 hk)
  rw [h3 k] at e2
  rw [spanElem_inv e2] at e1
  exact e1
end Go.Proofs.Qxb6609392a
