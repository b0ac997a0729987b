/-
  zzRunAdmitting behind its first loop: the extra slots, and what lies in memory from there on.
-/
import Derived.Test.Qxb6609392aRunA
namespace Go.Proofs.Qxb6609392a
open Go.RowKit

def extL (E : Nat → Int) (q : Nat) : List Value := (List.range q).map fun j => .int .i64 (E j)
def negL (q : Nat) : List Value := (List.range q).map fun _ => .int .i64 (-1)
theorem extL_succ (E : Nat → Int) (q : Nat) : extL E (q + 1) = extL E q ++ [.int .i64 (E q)] := by simp [extL, List.range_succ]
theorem negL_succ (q : Nat) : negL (q + 1) = negL q ++ [.int .i64 (-1)] := by simp [negL, List.range_succ]
theorem extL_len (E : Nat → Int) (q : Nat) : (extL E q).length = q := by simp [extL]
theorem negL_len (q : Nat) : (negL q).length = q := by simp [negL]

def PsE (n m : Nat) (X : Nat → Wr) (E : Nat → Int) (q1 q2 : Nat) : List (Obj → Prop) :=
  [OpsO n n (fun i => (X i).c), ClsO n n (fun i => (X i).c) (fun i => (X i).last) (fun i => (X i).fr), FillO n n (fun i => (X i).last), FillO n n (fun _ => -1), FillO n n (idleG X),
   AppO 2 (n + m) (momL X n ++ extL E q1), AppO 3 (n + m) (ownL X n ++ negL q2), AppO 2 n (retL X n), AppO 3 n (idxL X n)]

theorem PsE_zero (n m : Nat) (X : Nat → Wr) (E : Nat → Int) : PsE n m X E 0 0 = PsG n m X n n n n n n n n n := by simp [PsE, PsG, extL, negL]
theorem own_len (X : Nat → Wr) (k : Nat) : (ownL X k).length = (momL X k).length := by simp [ownL, momL]
theorem idx_len (X : Nat → Wr) (k : Nat) : (idxL X k).length = (retL X k).length := by simp [idxL, retL]

structure R2 (W : World) (B : Nat → Nat) (n m : Nat) (X : Nat → Wr) (E : Nat → Int) (q1 q2 b5 : Nat) (T : Int → Nat × Nat) (w : World) : Prop where
  hp : HeapP W B (PsE n m X E q1 q2)
  mp : SpanMap W b5 n T
  bel : Below w.heap.size w W

section
variable {W W' w : World} {n m q q' bx b0 b1 b2 b3 b4 b6 b7 b8 b9 b5 : Nat} {X : Nat → Wr} {E : Nat → Int} {T : Int → Nat × Nat}
theorem R2.keep {B : Nat → Nat} (h : R2 W B n m X E q q' b5 T w) (hB : Below W.heap.size W W') : R2 W' B n m X E q q' b5 T w := ⟨h.hp.keep hB, h.mp.kept (hB.block _ h.mp.lt), h.bel.trans (hB.mono h.bel.size)⟩
theorem R2.momRow (h : R2 W (Bl b0 b1 b2 b3 b4 b6 b7 b8 b9) n m X E q q' b5 T w) : W.ownsRow 0 2 1 (.slice (some ⟨b6, 0, none⟩) ((momL X n).length + q) (n + m)) ((momL X n).length + q) (momL X n ++ extL E q) := by
  obtain ⟨o, h1, h2⟩ := h.hp.at 5 (P := AppO 2 (n + m) (momL X n ++ extL E q)) rfl
  have := h2.row (base := 0) h1 (Nat.zero_le _)
  rw [List.length_append, extL_len] at this
  exact this
theorem R2.ownRow (h : R2 W (Bl b0 b1 b2 b3 b4 b6 b7 b8 b9) n m X E q q' b5 T w) : W.ownsRow 0 3 1 (.slice (some ⟨b7, 0, none⟩) ((momL X n).length + q') (n + m)) ((momL X n).length + q') (ownL X n ++ negL q') := by
  obtain ⟨o, h1, h2⟩ := h.hp.at 6 (P := AppO 3 (n + m) (ownL X n ++ negL q')) rfl
  have := h2.row (base := 0) h1 (Nat.zero_le _)
  rw [List.length_append, negL_len, own_len] at this
  exact this
theorem R2.momPut (h : R2 W (Bl b0 b1 b2 b3 b4 b6 b7 b8 b9) n m X E q q' b5 T w) (F : Fix (Bl b0 b1 b2 b3 b4 b6 b7 b8 b9) b5 bx w.heap.size)
    (g : W.grownBy W' (some b6)) (ho : W'.ownsRow 0 2 1 (.slice (some ⟨b6, 0, none⟩) ((momL X n).length + q + 1) (n + m)) ((momL X n).length + q + 1) (momL X n ++ extL E q ++ [.int .i64 (E q)])) : R2 W' (Bl b0 b1 b2 b3 b4 b6 b7 b8 b9) n m X E (q + 1) q' b5 T w := by
  rw [List.append_assoc, ← extL_succ] at ho
  have kp := Kept.ofGrown g
  have hs : ∀ i, i < W.heap.size → i ≠ b6 → W'.heap[i]? = W.heap[i]? := fun i hi hne => kp.same i hi (by simp [hne])
  have hlow : w.heap.size ≤ b6 := F.low 5 (by omega)
  exact ⟨h.hp.put 5 (AppO 2 (n + m) (momL X n ++ extL E (q + 1))) (fun j hj hne => F.inj j 5 hj (by omega) hne) hs (AppO.of ho).2, h.mp.kept (hs _ h.mp.lt (fun e => F.ne5 5 (by omega) e.symm)), h.bel.trans (kp.below h.bel.size (fun i hi => by simp at hi; omega))⟩
theorem R2.ownPut (h : R2 W (Bl b0 b1 b2 b3 b4 b6 b7 b8 b9) n m X E q q' b5 T w) (F : Fix (Bl b0 b1 b2 b3 b4 b6 b7 b8 b9) b5 bx w.heap.size)
    (g : W.grownBy W' (some b7)) (ho : W'.ownsRow 0 3 1 (.slice (some ⟨b7, 0, none⟩) ((momL X n).length + q' + 1) (n + m)) ((momL X n).length + q' + 1) (ownL X n ++ negL q' ++ [.int .i64 (-1)])) : R2 W' (Bl b0 b1 b2 b3 b4 b6 b7 b8 b9) n m X E q (q' + 1) b5 T w := by
  rw [List.append_assoc, ← negL_succ] at ho
  have kp := Kept.ofGrown g
  have hs : ∀ i, i < W.heap.size → i ≠ b7 → W'.heap[i]? = W.heap[i]? := fun i hi hne => kp.same i hi (by simp [hne])
  have hlow : w.heap.size ≤ b7 := F.low 6 (by omega)
  exact ⟨h.hp.put 6 (AppO 3 (n + m) (ownL X n ++ negL (q' + 1))) (fun j hj hne => F.inj j 6 hj (by omega) hne) hs (AppO.of ho).2, h.mp.kept (hs _ h.mp.lt (fun e => F.ne5 6 (by omega) e.symm)), h.bel.trans (kp.below h.bel.size (fun i hi => by simp at hi; omega))⟩
end

/-- What lies in memory from there on. -/
structure MemS (W : World) (n s d : Nat) (X : Nat → Wr) (b0 b1 b2 b3 b4 b5 b6 b7 b8 b9 : Nat) (T : Int → Nat × Nat) (F K G R I : Nat → Int) (w : World) : Prop where
  ops : ∀ i, i < n → W.cell? ⟨b0, i * 5 + 2, none⟩ = some (.int .i64 (X i).c)
  cl0 : ∀ i, i < n → W.cell? ⟨b1, i * 3, none⟩ = some (.int .i64 (X i).c)
  cl1 : ∀ i, i < n → W.cell? ⟨b1, i * 3 + 1, none⟩ = some (.int .i64 (X i).last)
  cl2 : ∀ i, i < n → W.cell? ⟨b1, i * 3 + 2, none⟩ = some (.int .i64 (X i).fr)
  last : OwnF W b2 n (fun i => (X i).last)
  first : OwnF W b3 n F
  idle : OwnF W b4 n (idleG X)
  map : SpanMap W b5 n T
  mom : OwnF W b6 s K
  own : OwnF W b7 s G
  ret : OwnF W b8 d R
  idx : OwnF W b9 d I
  bel : Below w.heap.size w W
  size : b9 < W.heap.size

theorem OwnF.made {W : World} {base b n cap : Nat} {e : TypeId} (h : W.ownsRow base e 1 (.slice (some ⟨b, 0, none⟩) n cap) n (madeCells (Value.int .i64 0).cells (n * 1)).toList) : OwnF W b n (fun _ => 0) ∧ b < W.heap.size := by
  refine ⟨OwnF.of h 0 (fun k v hv => ?_), ?_⟩
  · have := List.mem_of_getElem? hv
    simp only [Value.cells, Nat.mul_one] at this
    rw [show (madeCells #[Value.int .i64 0] n).toList = List.replicate n (.int .i64 0) from toList_madeCells_one _ _] at this
    exact List.eq_of_mem_replicate this
  · obtain ⟨cs, h1, _⟩ := row_obj h
    exact (Array.getElem?_eq_some_iff.1 h1).1
theorem OwnF.kept {W W' : World} {b n : Nat} {N : Nat → Int} {Y : List Nat} (h : OwnF W b n N) (hk : Kept Y W W') (hb : b ∉ Y) : OwnF W' b n N :=
  ⟨fun k hk' => hk.cell (h.ints k hk') hb, fun k hk' => (World.frozen?_of_block (w := W) (hk.same b (World.block_lt_of_cell? W _ (h.ints k hk')) hb)).trans (h.free k hk')⟩

section
variable {W W' w : World} {n s d b0 b1 b2 b3 b4 b5 b6 b7 b8 b9 : Nat} {X : Nat → Wr} {T : Int → Nat × Nat} {F K G R I F' K' G' R' I' : Nat → Int}
theorem MemS.turn {Y : List Nat} (h : MemS W n s d X b0 b1 b2 b3 b4 b5 b6 b7 b8 b9 T F K G R I w) (hk : Kept Y W W') (h0 : b0 ∉ Y) (h1 : b1 ∉ Y) (h2 : b2 ∉ Y) (h4 : b4 ∉ Y) (h5 : b5 ∉ Y) (hlow : ∀ b ∈ Y, w.heap.size ≤ b)
    (f : OwnF W' b3 n F') (k : OwnF W' b6 s K') (t : OwnF W' b7 s G') (r : OwnF W' b8 d R') (i : OwnF W' b9 d I') : MemS W' n s d X b0 b1 b2 b3 b4 b5 b6 b7 b8 b9 T F' K' G' R' I' w :=
  ⟨fun i hi => hk.cell (h.ops i hi) h0, fun i hi => hk.cell (h.cl0 i hi) h1, fun i hi => hk.cell (h.cl1 i hi) h1, fun i hi => hk.cell (h.cl2 i hi) h1, h.last.kept hk h2, f, h.idle.kept hk h4, h.map.kept (hk.same _ h.map.lt h5), k, t, r, i,
    h.bel.trans (hk.below h.bel.size hlow), Nat.lt_of_lt_of_le h.size hk.size⟩
theorem MemS.keep (h : MemS W n s d X b0 b1 b2 b3 b4 b5 b6 b7 b8 b9 T F K G R I w) (hB : Below W.heap.size W W') : MemS W' n s d X b0 b1 b2 b3 b4 b5 b6 b7 b8 b9 T F K G R I w :=
  h.turn (Y := []) (Kept.of hB) (by simp) (by simp) (by simp) (by simp) (by simp) (by simp) (h.first.keep hB) (h.mom.keep hB) (h.own.keep hB) (h.ret.keep hB) (h.idx.keep hB)
/-- A store in one block beside all of them. -/
theorem MemS.far {g : Nat} (h : MemS W n s d X b0 b1 b2 b3 b4 b5 b6 b7 b8 b9 T F K G R I w) (hk : Kept [g] W W') (hb : b0 ≤ b1 ∧ b1 ≤ b2 ∧ b2 ≤ b3 ∧ b3 ≤ b4 ∧ b4 ≤ b5 ∧ b5 ≤ b6 ∧ b6 ≤ b7 ∧ b7 ≤ b8 ∧ b8 ≤ b9 ∧ b9 < g ∧ w.heap.size ≤ b0) : MemS W' n s d X b0 b1 b2 b3 b4 b5 b6 b7 b8 b9 T F K G R I w := by
  have ne : ∀ b, b < g → b ∉ [g] := fun b hb => by simp; omega
  exact h.turn hk (ne _ (by omega)) (ne _ (by omega)) (ne _ (by omega)) (ne _ (by omega)) (ne _ (by omega)) (fun b hb => by simp at hb; omega) (h.first.kept hk (ne _ (by omega))) (h.mom.kept hk (ne _ (by omega))) (h.own.kept hk (ne _ (by omega))) (h.ret.kept hk (ne _ (by omega))) (h.idx.kept hk (ne _ (by omega)))
end

/-- The ten blocks' order. -/
structure Chn (n0 b0 b1 b2 b3 b4 b5 b6 b7 b8 b9 : Nat) : Prop where
  h : n0 ≤ b0 ∧ b0 < b1 ∧ b1 < b2 ∧ b2 < b3 ∧ b3 < b4 ∧ b4 < b5 ∧ b5 < b6 ∧ b6 < b7 ∧ b7 < b8 ∧ b8 < b9
section
variable {W W' w : World} {n s d b0 b1 b2 b3 b4 b5 b6 b7 b8 b9 : Nat} {X : Nat → Wr} {T : Int → Nat × Nat} {F K G R I : Nat → Int}
theorem MemS.setFar {g k : Nat} {v : Value} (h : MemS W n s d X b0 b1 b2 b3 b4 b5 b6 b7 b8 b9 T F K G R I w) (c : Chn w.heap.size b0 b1 b2 b3 b4 b5 b6 b7 b8 b9) (hg : b9 < g) : MemS (W.setCell ⟨g, k, none⟩ v) n s d X b0 b1 b2 b3 b4 b5 b6 b7 b8 b9 T F K G R I w := by
  have := c.h
  exact h.far (Kept.set (X := [g]) W (p := ⟨g, k, none⟩) v (by simp)) (by omega)
theorem MemS.setFirst {k : Nat} (h : MemS W n s d X b0 b1 b2 b3 b4 b5 b6 b7 b8 b9 T F K G R I w) (c : Chn w.heap.size b0 b1 b2 b3 b4 b5 b6 b7 b8 b9) (z : Int) : MemS (W.setCell ⟨b3, k, none⟩ (.int .i64 z)) n s d X b0 b1 b2 b3 b4 b5 b6 b7 b8 b9 T (fun x => if x = k then z else F x) K G R I w := by
  have := c.h
  have hk := Kept.set (X := [b3]) W (p := ⟨b3, k, none⟩) (.int .i64 z) (by simp)
  have ne : ∀ b, b ≠ b3 → b ∉ [b3] := fun b hb => by simp [hb]
  exact h.turn hk (ne _ (by omega)) (ne _ (by omega)) (ne _ (by omega)) (ne _ (by omega)) (ne _ (by omega)) (fun b hb => by simp at hb; omega) (h.first.set k z) (h.mom.kept hk (ne _ (by omega))) (h.own.kept hk (ne _ (by omega))) (h.ret.kept hk (ne _ (by omega))) (h.idx.kept hk (ne _ (by omega)))
theorem MemS.sortDone {K' I' : Nat → Int} (h : MemS W n s d X b0 b1 b2 b3 b4 b5 b6 b7 b8 b9 T F K G R I w) (c : Chn w.heap.size b0 b1 b2 b3 b4 b5 b6 b7 b8 b9) (hk : Kept [b8, b9] W W') (h8 : OwnF W' b8 d K') (h9 : OwnF W' b9 d I') : MemS W' n s d X b0 b1 b2 b3 b4 b5 b6 b7 b8 b9 T F K G K' I' w := by
  have := c.h
  have ne : ∀ b, b < b8 → b ∉ [b8, b9] := fun b hb => by simp; omega
  exact h.turn hk (ne _ (by omega)) (ne _ (by omega)) (ne _ (by omega)) (ne _ (by omega)) (ne _ (by omega)) (fun b hb => by simp at hb; omega) (h.first.kept hk (ne _ (by omega))) (h.mom.kept hk (ne _ (by omega))) (h.own.kept hk (ne _ (by omega))) h8 h9
theorem MemS.sortMom {K' G' : Nat → Int} (h : MemS W n s d X b0 b1 b2 b3 b4 b5 b6 b7 b8 b9 T F K G R I w) (c : Chn w.heap.size b0 b1 b2 b3 b4 b5 b6 b7 b8 b9) (hk : Kept [b6, b7] W W') (h6 : OwnF W' b6 s K') (h7 : OwnF W' b7 s G') : MemS W' n s d X b0 b1 b2 b3 b4 b5 b6 b7 b8 b9 T F K' G' R I w := by
  have := c.h
  have ne : ∀ b, b ≠ b6 → b ≠ b7 → b ∉ [b6, b7] := fun b h1 h2 => by simp [h1, h2]
  exact h.turn hk (ne _ (by omega) (by omega)) (ne _ (by omega) (by omega)) (ne _ (by omega) (by omega)) (ne _ (by omega) (by omega)) (ne _ (by omega) (by omega)) (fun b hb => by simp at hb; omega) (h.first.kept hk (ne _ (by omega) (by omega))) h6 h7 (h.ret.kept hk (ne _ (by omega) (by omega))) (h.idx.kept hk (ne _ (by omega) (by omega)))
end

theorem R2.mem {W w : World} {n m b0 b1 b2 b3 b4 b5 b6 b7 b8 b9 : Nat} {X : Nat → Wr} {E : Nat → Int} {T : Int → Nat × Nat} (h : R2 W (Bl b0 b1 b2 b3 b4 b6 b7 b8 b9) n m X E m m b5 T w) :
    MemS W n ((momL X n).length + m) (retL X n).length X b0 b1 b2 b3 b4 b5 b6 b7 b8 b9 T (fun _ => -1) (mixK (picks (fun i => (X i).slot) n) (fun i => (X i).fr) E) (mixT (picks (fun i => (X i).slot) n)) (mixK (picks (fun i => !(X i).failed) n) (fun i => (X i).r) E) (mixT (picks (fun i => !(X i).failed) n)) w := by
  obtain ⟨o0, u0, v0⟩ := h.hp.at 0 (P := OpsO n n (fun i => (X i).c)) rfl
  obtain ⟨o1, u1, v1⟩ := h.hp.at 1 (P := ClsO n n (fun i => (X i).c) (fun i => (X i).last) (fun i => (X i).fr)) rfl
  obtain ⟨o2, u2, v2⟩ := h.hp.at 2 (P := FillO n n (fun i => (X i).last)) rfl
  obtain ⟨o3, u3, v3⟩ := h.hp.at 3 (P := FillO n n (fun _ => -1)) rfl
  obtain ⟨o4, u4, v4⟩ := h.hp.at 4 (P := FillO n n (idleG X)) rfl
  obtain ⟨o5, u5, v5⟩ := h.hp.at 5 (P := AppO 2 (n + m) (momL X n ++ extL E m)) rfl
  obtain ⟨o6, u6, v6⟩ := h.hp.at 6 (P := AppO 3 (n + m) (ownL X n ++ negL m)) rfl
  obtain ⟨o7, u7, v7⟩ := h.hp.at 7 (P := AppO 2 n (retL X n)) rfl
  obtain ⟨o8, u8, v8⟩ := h.hp.at 8 (P := AppO 3 n (idxL X n)) rfl
  have fill : ∀ {b : Nat} {G : Nat → Int} {o : Obj}, W.heap[b]? = some o → FillO n n G o → OwnF W b n G := fun h1 h2 => by
    obtain ⟨N, h3, h4⟩ := h2.own h1
    exact h3.congr h4
  have lo : (ownL X n).length = (momL X n).length := by simp [ownL, momL]
  have li : (idxL X n).length = (retL X n).length := by simp [idxL, retL]
  obtain ⟨cs0, e0, rfl, _, w0⟩ := v0
  obtain ⟨cs1, e1, rfl, _, w1⟩ := v1
  refine ⟨fun i hi => cell_of u0 (w0 i hi), fun i hi => cell_of u1 (w1 i hi).1, fun i hi => cell_of u1 (w1 i hi).2.1, fun i hi => cell_of u1 (w1 i hi).2.2, fill u2 v2, fill u3 v3, fill u4 v4, h.mp, ?_, ?_, ?_, ?_, h.bel, (Array.getElem?_eq_some_iff.1 u8).1⟩
  · have := v5.own u5 (N := mixK (picks (fun i => (X i).slot) n) (fun i => (X i).fr) E) (fun k hk => mixK_at _ _ E m k (by simpa [momL, extL] using hk))
    rw [List.length_append, extL_len] at this
    exact this
  · have := v6.own u6 (N := mixT (picks (fun i => (X i).slot) n)) (fun k hk => mixT_at _ m k (by simpa [ownL, negL] using hk))
    rw [List.length_append, negL_len, lo] at this
    exact this
  · exact v7.own u7 (fun k hk => by
      have := mixK_at (picks (fun i => !(X i).failed) n) (fun i => (X i).r) E 0 k (by simpa [retL] using hk)
      simpa [retL] using this)
  · have := v8.own u8 (N := mixT (picks (fun i => !(X i).failed) n)) (fun k hk => by
      have := mixT_at (picks (fun i => !(X i).failed) n) 0 k (by simpa [idxL] using hk)
      simpa [idxL] using this)
    rw [li] at this
    exact this
end Go.Proofs.Qxb6609392a
