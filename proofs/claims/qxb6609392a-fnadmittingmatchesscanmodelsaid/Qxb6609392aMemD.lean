/-
  The bundle of what stands in a round of zzRunAdmitting's first loop.
-/
import Derived.Test.Qxb6609392aMemC
namespace Go.Proofs.Qxb6609392a
open Go.RowKit

theorem Kept.ofGrown {a b : World} {g : Nat} (h : a.grownBy b (some g)) : Kept [g] a b := ⟨h.os, h.tape, h.output, h.size, fun k hk hx => h.block k hk (fun e => hx (by cases e; simp))⟩

/-- The blocks' numbers: ten of one call, apart from one another. -/
structure Fix (B : Nat → Nat) (b5 bx n0 : Nat) : Prop where
  inj : ∀ i j, i < 9 → j < 9 → i ≠ j → B i ≠ B j
  ne5 : ∀ i, i < 9 → B i ≠ b5
  low : ∀ i, i < 9 → n0 ≤ B i
  lt : ∀ i, i < 9 → B i < bx
  l5 : b5 < bx
  g5 : n0 ≤ b5

def Wr.arr (x : Wr) : Array Value := #[.int .i64 x.v, .int .i64 x.c, .int .i64 x.r, .bool x.failed, .bool x.read, .int .i64 x.rc, .int .i64 x.rr]

theorem HeapP.lt {W : World} {B : Nat → Nat} {Ps : List (Obj → Prop)} (h : HeapP W B Ps) (hl : Ps.length = 9) (i : Nat) (hi : i < 9) : B i < W.heap.size := by
  obtain ⟨o, h1, _⟩ := h i _ (List.getElem?_eq_getElem (by omega))
  exact (Array.getElem?_eq_some_iff.1 h1).1
theorem heap_alloc_self (W : World) (o : Obj) : (W.alloc o).heap[W.heap.size]? = some o := by
  show (W.heap.push o)[W.heap.size]? = some o
  simp
structure R1 (W : World) (B : Nat → Nat) (Ps : List (Obj → Prop)) (b5 k : Nat) (T : Int → Nat × Nat) (bx : Nat) (x : Wr) (w : World) : Prop where
  hp : HeapP W B Ps
  mp : SpanMap W b5 k T
  box : W.heap[bx]? = some (.cells x.arr 35 (0, 0))
  bel : Below w.heap.size w W
  len : Ps.length = 9
theorem R1.start {W : World} {B : Nat → Nat} {Ps : List (Obj → Prop)} {b5 k : Nat} {T : Int → Nat × Nat} {w : World} (x : Wr) (h1 : HeapP W B Ps) (h2 : SpanMap W b5 k T) (h3 : Below w.heap.size w W) (h4 : Ps.length = 9) : R1 (W.alloc (.cells x.arr 35 (0, 0))) B Ps b5 k T W.heap.size x w :=
  ⟨h1.keep (below1 _ _), h2.kept ((below1 _ _).block _ h2.lt), heap_alloc_self _ _, h3.trans ((below1 _ _).mono h3.size), h4⟩
theorem R1.keep {W W' : World} {B : Nat → Nat} {Ps : List (Obj → Prop)} {b5 k : Nat} {T : Int → Nat × Nat} {bx : Nat} {x : Wr} {w : World} (h : R1 W B Ps b5 k T bx x w) (hB : Below W.heap.size W W') : R1 W' B Ps b5 k T bx x w :=
  ⟨h.hp.keep hB, h.mp.kept (hB.block _ h.mp.lt), (hB.block _ (Array.getElem?_eq_some_iff.1 h.box).1).trans h.box, h.bel.trans (hB.mono h.bel.size), h.len⟩
theorem R1.put {W W' : World} {B : Nat → Nat} {Ps : List (Obj → Prop)} {b5 k : Nat} {T : Int → Nat × Nat} {bx : Nat} {x : Wr} {w : World} (h : R1 W B Ps b5 k T bx x w) (F : Fix B b5 bx w.heap.size) (j0 : Nat) (hj : j0 < 9) (P' : Obj → Prop) (hk : Kept [B j0] W W') (ho : ∃ o, W'.heap[B j0]? = some o ∧ P' o) : R1 W' B (Ps.set j0 P') b5 k T bx x w := by
  have hs : ∀ i, i < W.heap.size → i ≠ B j0 → W'.heap[i]? = W.heap[i]? := fun i hi hne => hk.same i hi (by simp [hne])
  refine ⟨h.hp.put j0 P' (fun j hj' hne => F.inj j j0 (by rw [h.len] at hj'; exact hj') hj hne) hs ho, h.mp.kept (hs _ h.mp.lt (fun e => F.ne5 j0 hj e.symm)), ?_, ?_, by rw [List.length_set]; exact h.len⟩
  · exact (hs _ (Array.getElem?_eq_some_iff.1 h.box).1 (fun e => by have := F.lt j0 hj; omega)).trans h.box
  · refine h.bel.trans (hk.below h.bel.size (fun i hi => ?_))
    simp at hi
    rw [hi]; exact F.low j0 hj
theorem R1.map {W W' : World} {B : Nat → Nat} {Ps : List (Obj → Prop)} {b5 k k' : Nat} {T T' : Int → Nat × Nat} {bx : Nat} {x : Wr} {w : World} (h : R1 W B Ps b5 k T bx x w) (F : Fix B b5 bx w.heap.size) (hk : Kept [b5] W W') (hm : SpanMap W' b5 k' T') : R1 W' B Ps b5 k' T' bx x w := by
  have hs : ∀ i, i < W.heap.size → i ≠ b5 → W'.heap[i]? = W.heap[i]? := fun i hi hne => hk.same i hi (by simp [hne])
  refine ⟨fun j P hj => ?_, hm, ?_, ?_, h.len⟩
  · obtain ⟨o, h1, h2⟩ := h.hp j P hj
    have hj9 : j < 9 := by rw [← h.len]; exact (List.getElem?_eq_some_iff.1 hj).1
    exact ⟨o, (hs _ (Array.getElem?_eq_some_iff.1 h1).1 (F.ne5 j hj9)).trans h1, h2⟩
  · exact (hs _ (Array.getElem?_eq_some_iff.1 h.box).1 (fun e => by have := F.l5; omega)).trans h.box
  · refine h.bel.trans (hk.below h.bel.size (fun i hi => ?_))
    simp at hi
    rw [hi]; exact F.g5
/-- The box's cells. -/
theorem Wr.cells {W : World} {bx : Nat} {x : Wr} (h : W.heap[bx]? = some (.cells x.arr 35 (0, 0))) : W.cell? ⟨bx, 0, none⟩ = some (.int .i64 x.v) ∧ W.cell? ⟨bx, 1, none⟩ = some (.int .i64 x.c) ∧ W.cell? ⟨bx, 2, none⟩ = some (.int .i64 x.r) ∧ W.cell? ⟨bx, 3, none⟩ = some (.bool x.failed) ∧ W.cell? ⟨bx, 4, none⟩ = some (.bool x.read) ∧ W.cell? ⟨bx, 5, none⟩ = some (.int .i64 x.rc) ∧ W.cell? ⟨bx, 6, none⟩ = some (.int .i64 x.rr) :=
  ⟨cell_of h rfl, cell_of h rfl, cell_of h rfl, cell_of h rfl, cell_of h rfl, cell_of h rfl, cell_of h rfl⟩
theorem OpsO.at_ {W : World} {b n k : Nat} {C : Nat → Int} {o : Obj} (h : W.heap[b]? = some o) (ho : OpsO n k C o) (i : Nat) (hi : i < n * 5) : (∃ u, W.cell? ⟨b, i, none⟩ = some u) ∧ W.frozen? ⟨b, i, none⟩ = false := by
  obtain ⟨cs, e, rfl, hs, _⟩ := ho
  exact ⟨⟨_, cell_of h (Array.getElem?_eq_getElem (by omega))⟩, free_of h⟩
theorem ClsO.at_ {W : World} {b n k : Nat} {A B C : Nat → Int} {o : Obj} (h : W.heap[b]? = some o) (ho : ClsO n k A B C o) (i : Nat) (hi : i < n * 3) : (∃ u, W.cell? ⟨b, i, none⟩ = some u) ∧ W.frozen? ⟨b, i, none⟩ = false := by
  obtain ⟨cs, e, rfl, hs, _⟩ := ho
  exact ⟨⟨_, cell_of h (Array.getElem?_eq_getElem (by omega))⟩, free_of h⟩
theorem FillO.at_ {W : World} {b n k : Nat} {G : Nat → Int} {o : Obj} (h : W.heap[b]? = some o) (ho : FillO n k G o) (i : Nat) (hi : i < n) : (∃ u, W.cell? ⟨b, i, none⟩ = some (.int .i64 u)) ∧ W.frozen? ⟨b, i, none⟩ = false := by
  obtain ⟨N, h1, _⟩ := ho.own h
  exact ⟨⟨_, h1.ints i hi⟩, h1.free i hi⟩
end Go.Proofs.Qxb6609392a
