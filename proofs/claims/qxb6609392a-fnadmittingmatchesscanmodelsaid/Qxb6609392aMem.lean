/-
  The blocks that zzRunAdmitting makes, as a list of predicates on objects.
-/
import Derived.Test.Qxb6609392aDone
namespace Go.Proofs.Qxb6609392a
open Go.RowKit

/-- Blocks B 0, B 1, .. hold objects of which Ps hold. -/
def HeapP (W : World) (B : Nat → Nat) (Ps : List (Obj → Prop)) : Prop := ∀ (j : Nat) (P : Obj → Prop), Ps[j]? = some P → ∃ o, W.heap[B j]? = some o ∧ P o

theorem HeapP.at {W : World} {B : Nat → Nat} {Ps : List (Obj → Prop)} (h : HeapP W B Ps) (j : Nat) {P : Obj → Prop} (hj : Ps[j]? = some P) : ∃ o, W.heap[B j]? = some o ∧ P o := h j P hj
theorem HeapP.keep {W W' : World} {B : Nat → Nat} {Ps : List (Obj → Prop)} (h : HeapP W B Ps) (hB : Below W.heap.size W W') : HeapP W' B Ps := fun j P hj => by
  obtain ⟨o, h1, h2⟩ := h j P hj
  exact ⟨o, (hB.block _ (Array.getElem?_eq_some_iff.1 h1).1).trans h1, h2⟩
theorem HeapP.put {W W' : World} {B : Nat → Nat} {Ps : List (Obj → Prop)} (h : HeapP W B Ps) (j0 : Nat) (P' : Obj → Prop) (hi : ∀ j, j < Ps.length → j ≠ j0 → B j ≠ B j0) (hs : ∀ k, k < W.heap.size → k ≠ B j0 → W'.heap[k]? = W.heap[k]?) (ho : ∃ o, W'.heap[B j0]? = some o ∧ P' o) : HeapP W' B (Ps.set j0 P') := fun j P hj => by
  rw [List.getElem?_set] at hj
  split at hj
  · rename_i e
    subst e
    split at hj
    · cases hj; exact ho
    · cases hj
  · rename_i e
    obtain ⟨o, h1, h2⟩ := h j P hj
    exact ⟨o, (hs _ (Array.getElem?_eq_some_iff.1 h1).1 (hi j (List.getElem?_eq_some_iff.1 hj).1 (fun x => e x.symm))).trans h1, h2⟩
theorem HeapP.snoc {W W' : World} {B : Nat → Nat} {Ps : List (Obj → Prop)} (h : HeapP W B Ps) (P' : Obj → Prop) (hs : ∀ k, k < W.heap.size → W'.heap[k]? = W.heap[k]?) (ho : ∃ o, W'.heap[B Ps.length]? = some o ∧ P' o) : HeapP W' B (Ps ++ [P']) := fun j P hj => by
  by_cases e : j < Ps.length
  · rw [List.getElem?_append_left e] at hj
    obtain ⟨o, h1, h2⟩ := h j P hj
    exact ⟨o, (hs _ (Array.getElem?_eq_some_iff.1 h1).1).trans h1, h2⟩
  · rw [List.getElem?_append_right (by omega)] at hj
    have hl := (List.getElem?_eq_some_iff.1 hj).1
    simp at hl
    obtain rfl : j = Ps.length := by omega
    simp at hj
    subst hj
    exact ho

/-- n integers, all of which may be written. -/
def IntsO (n : Nat) (N : Nat → Int) (o : Obj) : Prop := ∃ cs e, o = .cells cs e (0, 0) ∧ ∀ k, k < n → cs[k]? = some (.int .i64 (N k))
theorem cell_of {W : World} {b k : Nat} {cs : Array Value} {e : TypeId} {f : Nat × Nat} {v : Value} (h : W.heap[b]? = some (.cells cs e f)) (hv : cs[k]? = some v) : W.cell? ⟨b, k, none⟩ = some v := by simp [World.cell?, h, hv]
theorem free_of {W : World} {b k : Nat} {cs : Array Value} {e : TypeId} (h : W.heap[b]? = some (.cells cs e (0, 0))) : W.frozen? ⟨b, k, none⟩ = false := by simp [World.frozen?, h]
theorem IntsO.own {W : World} {b n : Nat} {N : Nat → Int} {o : Obj} (h : W.heap[b]? = some o) (hi : IntsO n N o) : OwnF W b n N := by
  obtain ⟨cs, e, rfl, hc⟩ := hi
  exact ⟨fun k hk => cell_of h (hc k hk), fun k _ => free_of h⟩
theorem setCell_obj {W : World} {b k : Nat} {cs : Array Value} {e : TypeId} {f : Nat × Nat} (v : Value) (h : W.heap[b]? = some (.cells cs e f)) : (W.setCell ⟨b, k, none⟩ v).heap[b]? = some (.cells (cs.setIfInBounds k v) e f) := by
  simp [World.setCell, Array.getElem?_modify, h]
theorem IntsO.set {W : World} {b n k : Nat} {N : Nat → Int} {o : Obj} (h : W.heap[b]? = some o) (hi : IntsO n N o) (hk : k < n) (z : Int) : ∃ o', (W.setCell ⟨b, k, none⟩ (.int .i64 z)).heap[b]? = some o' ∧ IntsO n (fun i => if i = k then z else N i) o' := by
  obtain ⟨cs, e, rfl, hc⟩ := hi
  refine ⟨_, setCell_obj _ h, _, e, rfl, fun i hin => ?_⟩
  have hks := (Array.getElem?_eq_some_iff.1 (hc k hk)).1
  by_cases ei : i = k
  · subst ei; simp [hks]
  · rw [Array.getElem?_setIfInBounds_ne (by omega)]; simp [ei, hc i hin]
end Go.Proofs.Qxb6609392a
