/-
  Rows of integers filled up to k; the map beside stores.
-/
import Derived.Test.Qxb6609392aSrc
namespace Go.Proofs.Qxb6609392a
open Go.RowKit

/-- n integers of which the first k are G's. -/
def FillO (n k : Nat) (G : Nat → Int) (o : Obj) : Prop := ∃ N, IntsO n N o ∧ ∀ i, i < k → N i = G i
theorem FillO.own {W : World} {b n k : Nat} {G : Nat → Int} {o : Obj} (h : W.heap[b]? = some o) (hf : FillO n k G o) : ∃ N, OwnF W b n N ∧ ∀ i, i < k → N i = G i := by
  obtain ⟨N, h1, h2⟩ := hf
  exact ⟨N, h1.own h, h2⟩
theorem FillO.set {W : World} {b n k : Nat} {G : Nat → Int} {o : Obj} (h : W.heap[b]? = some o) (hf : FillO n k G o) (hk : k < n) : ∃ o', (W.setCell ⟨b, k, none⟩ (.int .i64 (G k))).heap[b]? = some o' ∧ FillO n (k + 1) G o' := by
  obtain ⟨N, h1, h2⟩ := hf
  obtain ⟨o', e1, e2⟩ := h1.set h hk (G k)
  refine ⟨o', e1, _, e2, fun i hi => ?_⟩
  by_cases e : i = k
  · subst e; simp
  · simp only [e, if_false]; exact h2 i (by omega)
/-- A store that leaves place k open still. -/
theorem FillO.pre {W : World} {b n k : Nat} {G : Nat → Int} {o : Obj} (h : W.heap[b]? = some o) (hf : FillO n k G o) (hk : k < n) (z : Int) : ∃ o', (W.setCell ⟨b, k, none⟩ (.int .i64 z)).heap[b]? = some o' ∧ FillO n k G o' := by
  obtain ⟨N, h1, h2⟩ := hf
  obtain ⟨o', e1, e2⟩ := h1.set h hk z
  refine ⟨o', e1, _, e2, fun i hi => ?_⟩
  rw [if_neg (by omega)]; exact h2 i hi
theorem FillO.of {W : World} {base b n cap : Nat} {e : TypeId} {G : Nat → Int} (h : W.ownsRow base e 1 (.slice (some ⟨b, 0, none⟩) n cap) n (madeCells (Value.int .i64 0).cells (n * 1)).toList) : ∃ o, W.heap[b]? = some o ∧ FillO n 0 G o := by
  obtain ⟨_, h2⟩ := h
  rcases h2 with ⟨e1, _⟩ | ⟨g, cap', cs, e1, _, h3, h4, h5, h6, h7⟩
  · cases e1
  · simp only [Value.slice.injEq, Option.some.injEq, Addr.mk.injEq, and_true, true_and] at e1
    obtain ⟨rfl, rfl⟩ := e1
    refine ⟨_, h3, fun _ => 0, ⟨cs, e, rfl, fun k hk => ?_⟩, fun i hi => by omega⟩
    rw [show (Value.int .i64 0).cells = #[Value.int .i64 0] from rfl, toList_madeCells_one] at h7
    have h8 : (cs.toList.take (n * 1))[k]? = (List.replicate (n * 1) (Value.int .i64 0))[k]? := by rw [h7]
    rw [List.getElem?_take, if_pos (by omega), Array.getElem?_toList] at h8
    rw [h8]
    simp [hk]

theorem row_obj {W : World} {base b n cap size : Nat} {e : TypeId} {L : List Value} (h : W.ownsRow base e size (.slice (some ⟨b, 0, none⟩) n cap) n L) : ∃ cs, W.heap[b]? = some (.cells cs e (0, 0)) ∧ cs.size = cap * size := by
  obtain ⟨_, h2⟩ := h
  rcases h2 with ⟨e1, _⟩ | ⟨g, cap', cs, e1, _, h3, h4, h5, h6, h7⟩
  · cases e1
  · simp only [Value.slice.injEq, Option.some.injEq, Addr.mk.injEq, and_true, true_and] at e1
    obtain ⟨rfl, rfl⟩ := e1
    exact ⟨cs, h3, h6⟩
theorem OpsO.of {W : World} {base b n : Nat} {e : TypeId} {L : List Value} {C : Nat → Int} (h : W.ownsRow base e 5 (.slice (some ⟨b, 0, none⟩) n n) n L) : ∃ o, W.heap[b]? = some o ∧ OpsO n 0 C o := by
  obtain ⟨cs, h1, h2⟩ := row_obj h
  exact ⟨_, h1, cs, e, rfl, h2, fun i hi => by omega⟩
theorem ClsO.of {W : World} {base b n : Nat} {e : TypeId} {L : List Value} {A B C : Nat → Int} (h : W.ownsRow base e 3 (.slice (some ⟨b, 0, none⟩) n n) n L) : ∃ o, W.heap[b]? = some o ∧ ClsO n 0 A B C o := by
  obtain ⟨cs, h1, h2⟩ := row_obj h
  exact ⟨_, h1, cs, e, rfl, h2, fun i hi => by omega⟩

theorem SpanMap.kept {W W' : World} {b n : Nat} {T : Int → Nat × Nat} (h : SpanMap W b n T) (e : W'.heap[b]? = W.heap[b]?) : SpanMap W' b n T := by
  obtain ⟨D, ⟨es, cl, h0, F, hs, hD⟩, h2, h3⟩ := h
  exact ⟨D, ⟨es, cl, e.trans h0, F, hs, hD⟩, h2, h3⟩
theorem SpanMap.lt {W : World} {b n : Nat} {T : Int → Nat × Nat} (h : SpanMap W b n T) : b < W.heap.size := by
  obtain ⟨D, ⟨es, cl, h0, _⟩, _⟩ := h
  exact (Array.getElem?_eq_some_iff.1 h0).1
end Go.Proofs.Qxb6609392a
