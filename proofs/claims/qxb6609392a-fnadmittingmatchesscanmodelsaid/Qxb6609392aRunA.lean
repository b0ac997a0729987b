/-
  zzRunAdmitting: its blocks, and what each statement of the first loop does to them.
-/
import Derived.Test.Qxb6609392aMemD
import Derived.Test.Qxb6609392aMix
namespace Go.Proofs.Qxb6609392a
open Go.RowKit

theorem Try.info42 : (Try.prog.info? 42).map (fun i => (i.zero, i.size, i.bytes)) = some (some (.agg #[.bool false, .int .i64 0, .int .i64 0, .int .i64 0, .bool false]), 5, 40) := by kernel_rfl
theorem Try.info47 : (Try.prog.info? 47).map (fun i => (i.zero, i.size, i.bytes)) = some (some (.agg #[.int .i64 0, .int .i64 0, .int .i64 0]), 3, 24) := by kernel_rfl
theorem Try.info3 : (Try.prog.info? 3).map (fun i => (i.zero, i.size, i.bytes)) = some (some (.int .i64 0), 1, 8) := by kernel_rfl

def momL (X : Nat → Wr) (k : Nat) : List Value := (picks (fun i => (X i).slot) k).map fun i => .int .i64 (X i).fr
def ownL (X : Nat → Wr) (k : Nat) : List Value := (picks (fun i => (X i).slot) k).map fun (i : Nat) => .int .i64 (i : Int)
def retL (X : Nat → Wr) (k : Nat) : List Value := (picks (fun i => !(X i).failed) k).map fun i => .int .i64 (X i).r
def idxL (X : Nat → Wr) (k : Nat) : List Value := (picks (fun i => !(X i).failed) k).map fun (i : Nat) => .int .i64 (i : Int)
def idleG (X : Nat → Wr) (i : Nat) : Int := if (X i).idle then 0 else -9223372036854775808

theorem momL_take {X : Nat → Wr} {k : Nat} (h : (X k).slot = true) : momL X (k + 1) = momL X k ++ [.int .i64 (X k).fr] := by simp [momL, picks_succ, h]
theorem ownL_take {X : Nat → Wr} {k : Nat} (h : (X k).slot = true) : ownL X (k + 1) = ownL X k ++ [.int .i64 (k : Int)] := by simp [ownL, picks_succ, h]
theorem retL_take {X : Nat → Wr} {k : Nat} (h : (X k).failed = false) : retL X (k + 1) = retL X k ++ [.int .i64 (X k).r] := by simp [retL, picks_succ, h]
theorem idxL_take {X : Nat → Wr} {k : Nat} (h : (X k).failed = false) : idxL X (k + 1) = idxL X k ++ [.int .i64 (k : Int)] := by simp [idxL, picks_succ, h]
theorem momL_skip {X : Nat → Wr} {k : Nat} (h : (X k).slot = false) : momL X (k + 1) = momL X k := by simp [momL, picks_succ, h]
theorem ownL_skip {X : Nat → Wr} {k : Nat} (h : (X k).slot = false) : ownL X (k + 1) = ownL X k := by simp [ownL, picks_succ, h]
theorem retL_skip {X : Nat → Wr} {k : Nat} (h : (X k).failed = true) : retL X (k + 1) = retL X k := by simp [retL, picks_succ, h]
theorem idxL_skip {X : Nat → Wr} {k : Nat} (h : (X k).failed = true) : idxL X (k + 1) = idxL X k := by simp [idxL, picks_succ, h]
theorem momL_le (X : Nat → Wr) (k : Nat) : (momL X k).length ≤ k := by simp only [momL, List.length_map]; exact picks_le _ _
theorem ownL_le (X : Nat → Wr) (k : Nat) : (ownL X k).length ≤ k := by simp only [ownL, List.length_map]; exact picks_le _ _
theorem retL_le (X : Nat → Wr) (k : Nat) : (retL X k).length ≤ k := by simp only [retL, List.length_map]; exact picks_le _ _
theorem idxL_le (X : Nat → Wr) (k : Nat) : (idxL X k).length ≤ k := by simp only [idxL, List.length_map]; exact picks_le _ _

/-- The blocks in a round of the first loop. -/
def PsG (n m : Nat) (X : Nat → Wr) (a0 a1 a2 a3 a4 a5 a6 a7 a8 : Nat) : List (Obj → Prop) :=
  [OpsO n a0 (fun i => (X i).c), ClsO n a1 (fun i => (X i).c) (fun i => (X i).last) (fun i => (X i).fr), FillO n a2 (fun i => (X i).last), FillO n a3 (fun _ => -1), FillO n a4 (idleG X),
   AppO 2 (n + m) (momL X a5), AppO 3 (n + m) (ownL X a6), AppO 2 n (retL X a7), AppO 3 n (idxL X a8)]
def Bl (b0 b1 b2 b3 b4 b6 b7 b8 b9 : Nat) (j : Nat) : Nat := [b0, b1, b2, b3, b4, b6, b7, b8, b9].getD j 0

theorem rise_ne {B : Nat → Nat} (h : ∀ i, i < 8 → B i < B (i + 1)) : ∀ i j, i < 9 → j < 9 → i ≠ j → B i ≠ B j := by
  have up : ∀ d i, i + d + 1 < 9 → B i < B (i + d + 1) := by
    intro d
    induction d with
    | zero => intro i hi; exact h i (by omega)
    | succ d ih => intro i hi; exact Nat.lt_trans (ih i (by omega)) (h (i + d + 1) (by omega))
  intro i j hi hj hne
  by_cases c : i < j
  · have := up (j - i - 1) i (by omega)
    rw [show i + (j - i - 1) + 1 = j from by omega] at this
    omega
  · have := up (i - j - 1) j (by omega)
    rw [show j + (i - j - 1) + 1 = i from by omega] at this
    omega

theorem below_grown {a b : World} (g : a.grownBy b none) : Below a.heap.size a b := (Below.refl _ a).grown g (Nat.le_refl _) (fun k e => by cases e)


theorem one_cell (W : World) (v : Value) (e : TypeId) (j : Nat) (u : Value) (h : [v][j]? = some u) : (W.alloc (.cells #[v] e)).cell? ((⟨W.heap.size, 0, none⟩ : Addr).add j) = some u := by
  cases j with
  | zero =>
    simp at h
    subst h
    exact cell_of (k := 0) (heap_alloc_self W _) rfl
  | succ j => simp at h
theorem one_one (z : Int) (u : Value) (h : u ∈ [Value.int .i64 z]) : u.oneCell' = true := by
  simp at h
  subst h
  rfl
theorem SpanMap.mono {W : World} {b n n' : Nat} {T : Int → Nat × Nat} (h : SpanMap W b n T) (hn : n ≤ n') : SpanMap W b n' T := by
  obtain ⟨D, ⟨es, cl, h0, F, hs, hD⟩, h2, h3⟩ := h
  exact ⟨D, ⟨es, cl, h0, F, Nat.le_trans hs hn, hD⟩, h2, h3⟩
theorem R1.more {W : World} {B : Nat → Nat} {Ps : List (Obj → Prop)} {b5 k : Nat} {T : Int → Nat × Nat} {bx : Nat} {x : Wr} {w : World} (h : R1 W B Ps b5 k T bx x w) : R1 W B Ps b5 (k + 1) T bx x w := ⟨h.hp, h.mp.mono (Nat.le_succ _), h.box, h.bel, h.len⟩
/-- The map's store, as the region comes to it. -/
theorem R1.upd {W : World} {B : Nat → Nat} {Ps : List (Obj → Prop)} {b5 k : Nat} {T : Int → Nat × Nat} {bx : Nat} {x : Wr} {w : World} (h : R1 W B Ps b5 k T bx x w) (F : Fix B b5 bx w.heap.size) (hk : k < maxLen) (hv : (Lit.int .i64 x.v).wf = true) (i j : Nat) (W' : World) (hB : Below W.heap.size W W') :
    ∃ W2, (Instr.mapUpdate 40 (.map (some b5)) (.int .i64 x.v) (.agg #[.int .i64 (i : Int), .int .i64 (j : Int)])).run Try.prog W' = .ok () W2 ∧ W'.cell? ⟨bx, 0, none⟩ = some (.int .i64 x.v) ∧ R1 W2 B Ps b5 (k + 1) (fun v => if v = x.v then (i, j) else T v) bx x w := by
  have h' := h.keep hB
  obtain ⟨W2, e1, e2, e3⟩ := h'.mp.update hk hv i j
  exact ⟨W2, e1, (Wr.cells h'.box).1, h'.map F (Kept.ofGrown e3) e2⟩
theorem SrcX.v {W : World} {b o n : Nat} {X : Nat → Wr} (h : SrcX W (some ⟨b, o, none⟩) n X) (i : Nat) (hi : i < n) : W.cell? ⟨b, o + i * 7, none⟩ = some (.int .i64 (X i).v) := by
  rcases h with h | ⟨b', o', e, h⟩
  · omega
  · cases e; exact (h i hi).1
theorem SrcX.c {W : World} {b o n : Nat} {X : Nat → Wr} (h : SrcX W (some ⟨b, o, none⟩) n X) (i : Nat) (hi : i < n) : W.cell? ⟨b, o + i * 7 + 1, none⟩ = some (.int .i64 (X i).c) := by
  rcases h with h | ⟨b', o', e, h⟩
  · omega
  · cases e; exact (h i hi).2.1
section
variable {W W' w : World} {n m k bx b0 b1 b2 b3 b4 b6 b7 b8 b9 b5 a0 a1 a2 a3 a4 a5 a6 a7 a8 : Nat} {X : Nat → Wr} {T : Int → Nat × Nat} {x : Wr}

theorem R1.opsCells (h : R1 W (Bl b0 b1 b2 b3 b4 b6 b7 b8 b9) (PsG n m X k a1 a2 a3 a4 a5 a6 a7 a8) b5 a0 T bx x w) (hk : k < n) (i : Nat) (hi : i < 5) : (∃ u, W.cell? ⟨b0, k * 5 + i, none⟩ = some u) ∧ W.frozen? ⟨b0, k * 5 + i, none⟩ = false := by
  obtain ⟨o, h1, h2⟩ := h.hp.at 0 (P := OpsO n k (fun i => (X i).c)) rfl
  exact h2.at_ h1 _ (by omega)
theorem R1.opsPut (h : R1 W (Bl b0 b1 b2 b3 b4 b6 b7 b8 b9) (PsG n m X k a1 a2 a3 a4 a5 a6 a7 a8) b5 a0 T bx x w) (F : Fix (Bl b0 b1 b2 b3 b4 b6 b7 b8 b9) b5 bx w.heap.size) (hk : k < n) (v0 v1 v3 v4 : Value) :
    R1 (((((W.setCell ⟨b0, k * 5, none⟩ v0).setCell ⟨b0, k * 5 + 1, none⟩ v1).setCell ⟨b0, k * 5 + 2, none⟩ (.int .i64 (X k).c)).setCell ⟨b0, k * 5 + 3, none⟩ v3).setCell ⟨b0, k * 5 + 4, none⟩ v4) (Bl b0 b1 b2 b3 b4 b6 b7 b8 b9) (PsG n m X (k + 1) a1 a2 a3 a4 a5 a6 a7 a8) b5 a0 T bx x w := by
  obtain ⟨o, h1, h2⟩ := h.hp.at 0 (P := OpsO n k (fun i => (X i).c)) rfl
  exact h.put F 0 (by omega) (OpsO n (k + 1) (fun i => (X i).c)) (((((Kept.set (X := [b0]) W (p := ⟨b0, k * 5, none⟩) v0 (by simp)).trans (Kept.set _ (p := ⟨b0, k * 5 + 1, none⟩) v1 (by simp))).trans (Kept.set _ (p := ⟨b0, k * 5 + 2, none⟩) (.int .i64 (X k).c) (by simp))).trans (Kept.set _ (p := ⟨b0, k * 5 + 3, none⟩) v3 (by simp))).trans (Kept.set _ (p := ⟨b0, k * 5 + 4, none⟩) v4 (by simp))) (h2.set h1 hk v0 v1 v3 v4)
theorem R1.clsCells (h : R1 W (Bl b0 b1 b2 b3 b4 b6 b7 b8 b9) (PsG n m X a0 k a2 a3 a4 a5 a6 a7 a8) b5 a1 T bx x w) (hk : k < n) (i : Nat) (hi : i < 3) : (∃ u, W.cell? ⟨b1, k * 3 + i, none⟩ = some u) ∧ W.frozen? ⟨b1, k * 3 + i, none⟩ = false := by
  obtain ⟨o, h1, h2⟩ := h.hp.at 1 (P := ClsO n k (fun i => (X i).c) (fun i => (X i).last) (fun i => (X i).fr)) rfl
  exact h2.at_ h1 _ (by omega)
theorem R1.clsPut (h : R1 W (Bl b0 b1 b2 b3 b4 b6 b7 b8 b9) (PsG n m X a0 k a2 a3 a4 a5 a6 a7 a8) b5 a1 T bx x w) (F : Fix (Bl b0 b1 b2 b3 b4 b6 b7 b8 b9) b5 bx w.heap.size) (hk : k < n) :
    R1 (((W.setCell ⟨b1, k * 3, none⟩ (.int .i64 (X k).c)).setCell ⟨b1, k * 3 + 1, none⟩ (.int .i64 (X k).last)).setCell ⟨b1, k * 3 + 2, none⟩ (.int .i64 (X k).fr)) (Bl b0 b1 b2 b3 b4 b6 b7 b8 b9) (PsG n m X a0 (k + 1) a2 a3 a4 a5 a6 a7 a8) b5 a1 T bx x w := by
  obtain ⟨o, h1, h2⟩ := h.hp.at 1 (P := ClsO n k (fun i => (X i).c) (fun i => (X i).last) (fun i => (X i).fr)) rfl
  have kp : Kept [b1] W (((W.setCell ⟨b1, k * 3, none⟩ (.int .i64 (X k).c)).setCell ⟨b1, k * 3 + 1, none⟩ (.int .i64 (X k).last)).setCell ⟨b1, k * 3 + 2, none⟩ (.int .i64 (X k).fr)) := ((Kept.set (X := [b1]) W (p := ⟨b1, k * 3, none⟩) (.int .i64 (X k).c) (by simp)).trans (Kept.set _ (p := ⟨b1, k * 3 + 1, none⟩) (.int .i64 (X k).last) (by simp))).trans (Kept.set _ (p := ⟨b1, k * 3 + 2, none⟩) (.int .i64 (X k).fr) (by simp))
  have h1' : W.heap[b1]? = some o := h1
  have q := h2.set h1' hk
  generalize (X k).last = L at *
  generalize (X k).fr = R at *
  exact h.put F 1 (by omega) (ClsO n (k + 1) (fun i => (X i).c) (fun i => (X i).last) (fun i => (X i).fr)) kp q
theorem R1.lastCells (h : R1 W (Bl b0 b1 b2 b3 b4 b6 b7 b8 b9) (PsG n m X a0 a1 k a3 a4 a5 a6 a7 a8) b5 a2 T bx x w) (hk : k < n) : (∃ u, W.cell? ⟨b2, k, none⟩ = some (.int .i64 u)) ∧ W.frozen? ⟨b2, k, none⟩ = false := by
  obtain ⟨o, h1, h2⟩ := h.hp.at 2 (P := FillO n k (fun i => (X i).last)) rfl
  exact h2.at_ h1 k hk
theorem R1.lastPut (h : R1 W (Bl b0 b1 b2 b3 b4 b6 b7 b8 b9) (PsG n m X a0 a1 k a3 a4 a5 a6 a7 a8) b5 a2 T bx x w) (F : Fix (Bl b0 b1 b2 b3 b4 b6 b7 b8 b9) b5 bx w.heap.size) (hk : k < n) :
    R1 (W.setCell ⟨b2, k, none⟩ (.int .i64 (X k).last)) (Bl b0 b1 b2 b3 b4 b6 b7 b8 b9) (PsG n m X a0 a1 (k + 1) a3 a4 a5 a6 a7 a8) b5 a2 T bx x w := by
  obtain ⟨o, h1, h2⟩ := h.hp.at 2 (P := FillO n k (fun i => (X i).last)) rfl
  exact h.put F 2 (by omega) (FillO n (k + 1) (fun i => (X i).last)) (Kept.set (X := [b2]) W (p := ⟨b2, k, none⟩) _ (by simp)) (h2.set h1 hk)
theorem R1.firstCells (h : R1 W (Bl b0 b1 b2 b3 b4 b6 b7 b8 b9) (PsG n m X a0 a1 a2 k a4 a5 a6 a7 a8) b5 a3 T bx x w) (hk : k < n) : (∃ u, W.cell? ⟨b3, k, none⟩ = some (.int .i64 u)) ∧ W.frozen? ⟨b3, k, none⟩ = false := by
  obtain ⟨o, h1, h2⟩ := h.hp.at 3 (P := FillO n k (fun _ => -1)) rfl
  exact h2.at_ h1 k hk
theorem R1.firstPut (h : R1 W (Bl b0 b1 b2 b3 b4 b6 b7 b8 b9) (PsG n m X a0 a1 a2 k a4 a5 a6 a7 a8) b5 a3 T bx x w) (F : Fix (Bl b0 b1 b2 b3 b4 b6 b7 b8 b9) b5 bx w.heap.size) (hk : k < n) :
    R1 (W.setCell ⟨b3, k, none⟩ (.int .i64 (-1))) (Bl b0 b1 b2 b3 b4 b6 b7 b8 b9) (PsG n m X a0 a1 a2 (k + 1) a4 a5 a6 a7 a8) b5 a3 T bx x w := by
  obtain ⟨o, h1, h2⟩ := h.hp.at 3 (P := FillO n k (fun _ => -1)) rfl
  exact h.put F 3 (by omega) (FillO n (k + 1) (fun _ => -1)) (Kept.set (X := [b3]) W (p := ⟨b3, k, none⟩) _ (by simp)) (h2.set h1 hk)
theorem R1.idleCells (h : R1 W (Bl b0 b1 b2 b3 b4 b6 b7 b8 b9) (PsG n m X a0 a1 a2 a3 k a5 a6 a7 a8) b5 a4 T bx x w) (hk : k < n) : (∃ u, W.cell? ⟨b4, k, none⟩ = some (.int .i64 u)) ∧ W.frozen? ⟨b4, k, none⟩ = false := by
  obtain ⟨o, h1, h2⟩ := h.hp.at 4 (P := FillO n k (idleG X)) rfl
  exact h2.at_ h1 k hk
theorem R1.idlePut (h : R1 W (Bl b0 b1 b2 b3 b4 b6 b7 b8 b9) (PsG n m X a0 a1 a2 a3 k a5 a6 a7 a8) b5 a4 T bx x w) (F : Fix (Bl b0 b1 b2 b3 b4 b6 b7 b8 b9) b5 bx w.heap.size) (hk : k < n) (z : Int) (hz : z = idleG X k) :
    R1 (W.setCell ⟨b4, k, none⟩ (.int .i64 z)) (Bl b0 b1 b2 b3 b4 b6 b7 b8 b9) (PsG n m X a0 a1 a2 a3 (k + 1) a5 a6 a7 a8) b5 a4 T bx x w := by
  subst hz
  obtain ⟨o, h1, h2⟩ := h.hp.at 4 (P := FillO n k (idleG X)) rfl
  exact h.put F 4 (by omega) (FillO n (k + 1) (idleG X)) (Kept.set (X := [b4]) W (p := ⟨b4, k, none⟩) _ (by simp)) (h2.set h1 hk)
theorem R1.idlePre (h : R1 W (Bl b0 b1 b2 b3 b4 b6 b7 b8 b9) (PsG n m X a0 a1 a2 a3 k a5 a6 a7 a8) b5 a4 T bx x w) (F : Fix (Bl b0 b1 b2 b3 b4 b6 b7 b8 b9) b5 bx w.heap.size) (hk : k < n) (z : Int) :
    R1 (W.setCell ⟨b4, k, none⟩ (.int .i64 z)) (Bl b0 b1 b2 b3 b4 b6 b7 b8 b9) (PsG n m X a0 a1 a2 a3 k a5 a6 a7 a8) b5 a4 T bx x w := by
  obtain ⟨o, h1, h2⟩ := h.hp.at 4 (P := FillO n k (idleG X)) rfl
  exact h.put F 4 (by omega) (FillO n k (idleG X)) (Kept.set (X := [b4]) W (p := ⟨b4, k, none⟩) _ (by simp)) (h2.pre h1 hk z)
theorem R1.momRow (h : R1 W (Bl b0 b1 b2 b3 b4 b6 b7 b8 b9) (PsG n m X a0 a1 a2 a3 a4 k a6 a7 a8) b5 a5 T bx x w) : W.ownsRow 0 2 1 (.slice (some ⟨b6, 0, none⟩) (momL X k).length (n + m)) (momL X k).length (momL X k) := by
  obtain ⟨o, h1, h2⟩ := h.hp.at 5 (P := AppO 2 (n + m) (momL X k)) rfl
  exact h2.row h1 (Nat.zero_le _)
theorem R1.momPut (h : R1 W (Bl b0 b1 b2 b3 b4 b6 b7 b8 b9) (PsG n m X a0 a1 a2 a3 a4 k a6 a7 a8) b5 a5 T bx x w) (F : Fix (Bl b0 b1 b2 b3 b4 b6 b7 b8 b9) b5 bx w.heap.size) (hs : (X k).slot = true)
    (g : W.grownBy W' (some b6)) (ho : W'.ownsRow 0 2 1 (.slice (some ⟨b6, 0, none⟩) ((momL X k).length + 1) (n + m)) ((momL X k).length + 1) (momL X k ++ [.int .i64 (X k).fr])) :
    R1 W' (Bl b0 b1 b2 b3 b4 b6 b7 b8 b9) (PsG n m X a0 a1 a2 a3 a4 (k + 1) a6 a7 a8) b5 a5 T bx x w := by
  rw [← momL_take hs] at ho
  exact h.put F 5 (by omega) (AppO 2 (n + m) (momL X (k + 1))) (Kept.ofGrown g) (AppO.of ho).2
theorem R1.ownRow (h : R1 W (Bl b0 b1 b2 b3 b4 b6 b7 b8 b9) (PsG n m X a0 a1 a2 a3 a4 a5 k a7 a8) b5 a6 T bx x w) : W.ownsRow 0 3 1 (.slice (some ⟨b7, 0, none⟩) (ownL X k).length (n + m)) (ownL X k).length (ownL X k) := by
  obtain ⟨o, h1, h2⟩ := h.hp.at 6 (P := AppO 3 (n + m) (ownL X k)) rfl
  exact h2.row h1 (Nat.zero_le _)
theorem R1.ownPut (h : R1 W (Bl b0 b1 b2 b3 b4 b6 b7 b8 b9) (PsG n m X a0 a1 a2 a3 a4 a5 k a7 a8) b5 a6 T bx x w) (F : Fix (Bl b0 b1 b2 b3 b4 b6 b7 b8 b9) b5 bx w.heap.size) (hs : (X k).slot = true)
    (g : W.grownBy W' (some b7)) (ho : W'.ownsRow 0 3 1 (.slice (some ⟨b7, 0, none⟩) ((ownL X k).length + 1) (n + m)) ((ownL X k).length + 1) (ownL X k ++ [.int .i64 (k : Int)])) :
    R1 W' (Bl b0 b1 b2 b3 b4 b6 b7 b8 b9) (PsG n m X a0 a1 a2 a3 a4 a5 (k + 1) a7 a8) b5 a6 T bx x w := by
  rw [← ownL_take hs] at ho
  exact h.put F 6 (by omega) (AppO 3 (n + m) (ownL X (k + 1))) (Kept.ofGrown g) (AppO.of ho).2
theorem R1.retRow (h : R1 W (Bl b0 b1 b2 b3 b4 b6 b7 b8 b9) (PsG n m X a0 a1 a2 a3 a4 a5 a6 k a8) b5 a7 T bx x w) : W.ownsRow 0 2 1 (.slice (some ⟨b8, 0, none⟩) (retL X k).length n) (retL X k).length (retL X k) := by
  obtain ⟨o, h1, h2⟩ := h.hp.at 7 (P := AppO 2 n (retL X k)) rfl
  exact h2.row h1 (Nat.zero_le _)
theorem R1.retPut (h : R1 W (Bl b0 b1 b2 b3 b4 b6 b7 b8 b9) (PsG n m X a0 a1 a2 a3 a4 a5 a6 k a8) b5 a7 T bx x w) (F : Fix (Bl b0 b1 b2 b3 b4 b6 b7 b8 b9) b5 bx w.heap.size) (hs : (X k).failed = false)
    (g : W.grownBy W' (some b8)) (ho : W'.ownsRow 0 2 1 (.slice (some ⟨b8, 0, none⟩) ((retL X k).length + 1) n) ((retL X k).length + 1) (retL X k ++ [.int .i64 (X k).r])) :
    R1 W' (Bl b0 b1 b2 b3 b4 b6 b7 b8 b9) (PsG n m X a0 a1 a2 a3 a4 a5 a6 (k + 1) a8) b5 a7 T bx x w := by
  rw [← retL_take hs] at ho
  exact h.put F 7 (by omega) (AppO 2 n (retL X (k + 1))) (Kept.ofGrown g) (AppO.of ho).2
theorem R1.idxRow (h : R1 W (Bl b0 b1 b2 b3 b4 b6 b7 b8 b9) (PsG n m X a0 a1 a2 a3 a4 a5 a6 a7 k) b5 a8 T bx x w) : W.ownsRow 0 3 1 (.slice (some ⟨b9, 0, none⟩) (idxL X k).length n) (idxL X k).length (idxL X k) := by
  obtain ⟨o, h1, h2⟩ := h.hp.at 8 (P := AppO 3 n (idxL X k)) rfl
  exact h2.row h1 (Nat.zero_le _)
theorem R1.idxPut (h : R1 W (Bl b0 b1 b2 b3 b4 b6 b7 b8 b9) (PsG n m X a0 a1 a2 a3 a4 a5 a6 a7 k) b5 a8 T bx x w) (F : Fix (Bl b0 b1 b2 b3 b4 b6 b7 b8 b9) b5 bx w.heap.size) (hs : (X k).failed = false)
    (g : W.grownBy W' (some b9)) (ho : W'.ownsRow 0 3 1 (.slice (some ⟨b9, 0, none⟩) ((idxL X k).length + 1) n) ((idxL X k).length + 1) (idxL X k ++ [.int .i64 (k : Int)])) :
    R1 W' (Bl b0 b1 b2 b3 b4 b6 b7 b8 b9) (PsG n m X a0 a1 a2 a3 a4 a5 a6 a7 (k + 1)) b5 a8 T bx x w := by
  rw [← idxL_take hs] at ho
  exact h.put F 8 (by omega) (AppO 3 n (idxL X (k + 1))) (Kept.ofGrown g) (AppO.of ho).2
theorem R1.skipSlot (h : R1 W (Bl b0 b1 b2 b3 b4 b6 b7 b8 b9) (PsG n m X a0 a1 a2 a3 a4 k k a7 a8) b5 a5 T bx x w) (hs : (X k).slot = false) : R1 W (Bl b0 b1 b2 b3 b4 b6 b7 b8 b9) (PsG n m X a0 a1 a2 a3 a4 (k + 1) (k + 1) a7 a8) b5 a5 T bx x w := by
  have e : PsG n m X a0 a1 a2 a3 a4 (k + 1) (k + 1) a7 a8 = PsG n m X a0 a1 a2 a3 a4 k k a7 a8 := by unfold PsG; rw [momL_skip hs, ownL_skip hs]
  rw [e]; exact h
theorem R1.skipDone (h : R1 W (Bl b0 b1 b2 b3 b4 b6 b7 b8 b9) (PsG n m X a0 a1 a2 a3 a4 a5 a6 k k) b5 a7 T bx x w) (hs : (X k).failed = true) : R1 W (Bl b0 b1 b2 b3 b4 b6 b7 b8 b9) (PsG n m X a0 a1 a2 a3 a4 a5 a6 (k + 1) (k + 1)) b5 a7 T bx x w := by
  have e : PsG n m X a0 a1 a2 a3 a4 a5 a6 (k + 1) (k + 1) = PsG n m X a0 a1 a2 a3 a4 a5 a6 k k := by unfold PsG; rw [retL_skip hs, idxL_skip hs]
  rw [e]; exact h
end
end Go.Proofs.Qxb6609392a
