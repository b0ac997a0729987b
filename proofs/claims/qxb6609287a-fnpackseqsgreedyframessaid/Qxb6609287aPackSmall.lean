/-
  THE SMALL FUNCTIONS OF THE ROAD: size, add, the makers of the iterators.
-/
import Derived.Test.Qxb6609287aRows
import Derived.Test.Qxb6609287aPackPlain
import Derived.Test.Qxb6609287aFrame
import Derived.WalkLawsBesides
import Derived.WalkSpells
import Derived.Deep.RegionLaw
import Derived.Deep.RegionHeld3
import Derived.Laws.EntriesVeiled
namespace Go.Proofs.Qxb6609287a
open Go.RowKit Go.Shelf

/-- A topic as a value; its three cells; a row of them. -/
def Top.val (x : Top) : Value := .agg #[.string x.s, .int .u64 x.t, .int .u64 x.h]
def Top.cells (x : Top) : List Value := [.string x.s, .int .u64 x.t, .int .u64 x.h]
def flat (xs : List Top) : List Value := xs.flatMap Top.cells
theorem flat_length (xs : List Top) : (flat xs).length = xs.length * 3 := by
  induction xs with
  | nil => rfl
  | cons x xs ih => simp [flat, Top.cells] at ih ⊢; omega
theorem flat_snoc (xs : List Top) (x : Top) : flat (xs ++ [x]) = flat xs ++ x.cells := by simp [flat]
theorem flat_at {xs : List Top} {k : Nat} {x : Top} (h : xs[k]? = some x) (j : Nat) (hj : j < 3) : (flat xs)[k * 3 + j]? = x.cells[j]? := by
  induction xs generalizing k with
  | nil => simp at h
  | cons y ys ih =>
    have e : flat (y :: ys) = y.cells ++ flat ys := rfl
    rw [e]
    cases k with
    | zero =>
      simp at h; subst h
      rw [List.getElem?_append_left (by simp [Top.cells]; omega)]
      simp
    | succ k =>
      simp at h
      rw [List.getElem?_append_right (by simp [Top.cells]; omega), ← ih h]
      congr 1
      simp [Top.cells]; omega

theorem Try.info60 : (Try.prog.info? 60).map (fun i => (i.zero, i.size, i.bytes)) = some (some (.agg #[.string ByteArray.empty, .int .u64 0, .int .u64 0]), 3, 32) := by kernel_rfl
theorem Try.info52 : (Try.prog.info? 52).map (fun i => (i.zero, i.size, i.bytes)) = some (some (.slice none 0 0), 1, 24) := by kernel_rfl
theorem Try.info4 : (Try.prog.info? 4).map (fun i => (i.zero, i.size, i.bytes)) = some (some (.bool false), 1, 1) := by kernel_rfl

set_option maxHeartbeats 400000 in
/-- PackSeqs$1: the size of a topic. -/
theorem size_any (x : Top) (w : World) (hs : x.s.size ≤ 1048576) :
    Calls Try.prog 35 #[x.val] w fun e w' => e = .returned (.int .i64 (x.sz : Nat)) ∧ ∃ c : Array Value, w' = w.alloc (.cells c 60) := by
  obtain ⟨s, t, h⟩ := x
  unfold Top.val Top.sz
  simp only at hs ⊢
  go_enter Try.func35, Try.ntmps35
  go_wp2
  go_ret
  exact ⟨by simp, _, rfl⟩

set_option maxHeartbeats 400000 in
/-- PackSeqs: its two functions and its argument are boxed; the iterator captures the boxes. -/
theorem packSeqs_any (B : Nat) (w : World) :
    Calls Try.prog 30 #[.func (.func 29) #[] #[.pointer (some ⟨B, 0, none⟩)]] w fun e w' => e = .returned (.func (.func 37) #[] #[.pointer (some ⟨w.heap.size, 0, none⟩), .pointer (some ⟨w.heap.size + 1, 0, none⟩), .pointer (some ⟨w.heap.size + 1 + 1, 0, none⟩)]) ∧
      w' = ((w.alloc (.cells #[.func (.func 29) #[] #[.pointer (some ⟨B, 0, none⟩)]] 83)).alloc (.cells #[.func (.func 35) #[] #[]] 84)).alloc (.cells #[.func (.func 36) #[] #[]] 85) := by
  go_enter Try.func30, Try.ntmps30
  go_wp2
  go_ret
  exact ⟨rfl, rfl⟩

set_option maxHeartbeats 400000 in
/-- pack: its four arguments are boxed. -/
theorem pack_any (B : Nat) (w : World) :
    Calls Try.prog 38 #[.func (.func 29) #[] #[.pointer (some ⟨B, 0, none⟩)], .int .i64 10, .func (.func 35) #[] #[], .func (.func 36) #[] #[]] w fun e w' =>
      e = .returned (.func (.func 41) #[] #[.pointer (some ⟨w.heap.size + 1, 0, none⟩), .pointer (some ⟨w.heap.size, 0, none⟩), .pointer (some ⟨w.heap.size + 1 + 1, 0, none⟩), .pointer (some ⟨w.heap.size + 1 + 1 + 1, 0, none⟩)]) ∧
      w' = (((w.alloc (.cells #[.func (.func 29) #[] #[.pointer (some ⟨B, 0, none⟩)]] 83)).alloc (.cells #[.int .i64 10] 3)).alloc (.cells #[.func (.func 35) #[] #[]] 84)).alloc (.cells #[.func (.func 36) #[] #[]] 85) := by
  go_enter Try.func38, Try.ntmps38
  go_wp2
  go_ret
  exact ⟨rfl, rfl⟩

/-- 'append' onto an owned row, as one step of a region that draws its order. -/
theorem step_append_own {P : Program} {ops : Array Oper} {o : Oper} {a : Act} {w : World} {K : Act → World → Prop} {Q : Exit → Act → World → Prop} {E : Prop}
    (hg : o.guard = none) (s x : Operand) (t : TypeId) (hop : o.op = Op.call { callee := Callee.builtin Builtin.append, args := #[s, x], argTypes := #[t, t] })
    (base : Nat) (e : TypeId) (i : TypeInfo) (z : Value) (size bytes : Nat) (h1 : P.underlying t = some (.slice e)) (h2 : P.info? e = some i) (h3 : i.zero = some z) (h4 : i.size = size) (h5 : i.bytes = bytes) (h6 : z.cells.size = size) (h7 : 0 < size)
    (v : Value) (k : Nat) (xs : List Value) (hs : a.eval s = v) (hown : w.ownsRow base e size v k xs)
    (ad : Addr) (m c : Nat) (news : List Value) (hx : a.eval x = .slice (some ad) m c) (hn : news.length = m * size) (hc : ∀ j u, news[j]? = some u → w.cell? (ad.add j) = some u) (h1c : ∀ u ∈ news, u.oneCell' = true)
    (b1 : k + m ≤ maxLen) (b2 : (k + m) * bytes ≤ 140737488355328) (b3 : base ≤ w.heap.size)
    (hK : ∀ v' w', w'.ownsRow base e size v' (k + m) (xs ++ news) → w.grownBy w' v.ownBlock → K (a.put o.dst v') w') :
    if Region.wanted o (yielded ops a.tmps) = true then Oper.wp P o a w K Q else E := by
  have hw : Region.wanted o (yielded ops a.tmps) = true := by simp [Region.wanted, hg]
  rw [if_pos hw]
  exact wp_append_own w s x t hop base e i z size bytes h1 h2 h3 h4 h5 h6 h7 v k xs hs hown ad m c news hx hn hc h1c b1 b2 b3 (fun v' w' r1 r2 _ => hK v' w' r1 r2)

theorem ownsRow_form {W : World} {base : Nat} {e : TypeId} {size : Nat} {v : Value} {n : Nat} {xs : List Value} (h : W.ownsRow base e size v n xs) : ∃ a n c, v = .slice a n c := by
  rcases h.2 with ⟨rfl, _⟩ | ⟨g, cap, cur, rfl, _⟩
  · exact ⟨_, _, _, rfl⟩
  · exact ⟨_, _, _, rfl⟩
/-- A block that holds another kind of object is not the row's. -/
theorem row_ne {W : World} {base : Nat} {e : TypeId} {size : Nat} {v : Value} {n : Nat} {xs : List Value} {b : Nat} {o : Obj} (h : W.ownsRow base e size v n xs) (hb : W.heap[b]? = some o) (ho : ∀ c, o ≠ .cells c e (0, 0)) : v.ownBlock ≠ some b := by
  rcases h.2 with ⟨rfl, _⟩ | ⟨g, cap, cur, rfl, _, hg, _⟩
  · simp [Value.ownBlock]
  · intro e'
    simp [Value.ownBlock] at e'
    subst e'
    rw [hb] at hg
    exact ho cur (by simpa using hg)
theorem msg_set {W : World} {bm : Nat} {x v : Value} {t : TypeId} (h : W.heap[bm]? = some (.cells #[x, v] t (0, 0))) (v' : Value) : (W.setCell ⟨bm, 1, none⟩ v').heap[bm]? = some (.cells #[x, v'] t (0, 0)) := by
  simp [World.setCell, Array.getElem?_modify, h]
theorem msg_set0 {W : World} {bm : Nat} {x v : Value} {t : TypeId} (h : W.heap[bm]? = some (.cells #[x, v] t (0, 0))) (x' : Value) : (W.setCell ⟨bm, 0, none⟩ x').heap[bm]? = some (.cells #[x', v] t (0, 0)) := by
  simp [World.setCell, Array.getElem?_modify, h]

theorem cells_at3 (w : World) (a b c : Value) (t : TypeId) (g : Nat) (hg : g = w.heap.size) : ∀ (j : Nat) (u : Value), [a, b, c][j]? = some u → (w.alloc (.cells #[a, b, c] t)).drew.cell? ((⟨g, 0, none⟩ : Addr).add j) = some u := by
  subst hg
  intro j u h
  have hadd : (⟨w.heap.size, 0, none⟩ : Addr).add j = ⟨w.heap.size, j, none⟩ := by unfold Addr.add; split <;> simp_all
  rw [hadd]
  match j, h with
  | 0, h => simpa [go_sem] using h
  | 1, h => simpa [go_sem] using h
  | 2, h => simpa [go_sem] using h
  | j + 3, h => simp at h

theorem grow_block {W W' : World} {row : Option Nat} {b : Nat} {o : Obj} (hg : W.grownBy W' row) (h : W.heap[b]? = some o) (hne : row ≠ some b) : W'.heap[b]? = some o :=
  (hg.block b (Array.getElem?_eq_some_iff.1 h).1 (fun e => hne e.symm)).trans h
theorem old1 {w : World} {b : Nat} {o : Obj} (A : Obj) (h : w.heap[b]? = some o) : (w.alloc A).heap[b]? = some o := (Below.heap_alloc w A b (Array.getElem?_eq_some_iff.1 h).1).trans h
theorem cell_blk {W : World} {b : Nat} {c : Array Value} {t : TypeId} {f : Nat × Nat} (h : W.heap[b]? = some (.cells c t f)) (j : Nat) : W.cell? ⟨b, j, none⟩ = c[j]? := by simp [World.cell?, h]
theorem frozen_blk {W : World} {b : Nat} {c : Array Value} {t : TypeId} (h : W.heap[b]? = some (.cells c t (0, 0))) (j : Nat) : W.frozen? ⟨b, j, none⟩ = false := by simp [World.frozen?, h]

set_option maxHeartbeats 1000000 in
/-- PackSeqs$2: a topic is appended to a message. -/
theorem add_any (bm : Nat) (f : Bool) (v : Value) (G k : Nat) (ys : List Value) (x : Top) (w : World) (hbm : w.heap[bm]? = some (.cells #[.bool f, v] 78 (0, 0)))
    (hrow : w.ownsRow G 60 3 v k ys) (hk : k ≤ 1048576) (hG : G ≤ w.heap.size) :
    Calls Try.prog 36 #[.pointer (some ⟨bm, 0, none⟩), x.val] w fun e w' => (∃ u, e = .returned u) ∧ ∃ v', w'.heap[bm]? = some (.cells #[.bool f, v'] 78 (0, 0)) ∧ w'.ownsRow G 60 3 v' (k + 1) (ys ++ x.cells) ∧
      Keep (fun b _ => b = bm ∨ v.ownBlock = some b) w w' := by
  obtain ⟨s, t, h⟩ := x
  unfold Top.val Top.cells
  obtain ⟨i0, hi, hz0, hz1, hz2⟩ := info_parts Try.info60
  have hc1 : w.cell? ⟨bm, 1, none⟩ = some v := by simp [World.cell?, hbm]
  have hbm1 : bm < w.heap.size := (Array.getElem?_eq_some_iff.1 hbm).1
  have hne : v.ownBlock ≠ some bm := row_ne hrow hbm (by intro c hc; cases hc)
  go_enter Try.func36, Try.ntmps36
  go_wp2
  go_region_law (
        (skip
         refine step_append_own rfl (.tmp 8) (.tmp 10) 52 rfl G 60 i0 _ 3 32 Try.underlying52 hi hz0 hz1 hz2 rfl (by decide) v k ys rfl ((hrow.alloc _).alloc _).drew ⟨w.heap.size + 1, 0, none⟩ 1 1 [.string s, .int .u64 t, .int .u64 h] rfl rfl (cells_at3 _ _ _ _ _ _ (by simp)) ?_ ?_ ?_ ?_ ?_
         · simp [Value.oneCell']
         · simp [maxLen]; omega
         · omega
         · simp; omega
         intro v' w1 hown' hgrow
         obtain ⟨g', cap', rfl⟩ := ownsRow_succ hown'
         have q1 := grow_block hgrow (old1 _ (old1 _ hbm)) hne
         have q2 := grow_block hgrow (old1 _ (World.alloc_heap_new w _)) (fun e' => by have := (hrow.lt _ e').2; omega)
         have k1 : w1.cell? ⟨bm, 1, none⟩ = some v := cell_blk q1 1
         have k2 : w1.cell? ⟨w.heap.size, 0, none⟩ = some (.string s) := cell_blk q2 0
         have k3 : w1.cell? ⟨w.heap.size, 1, none⟩ = some (.int .u64 t) := cell_blk q2 1
         have k4 : w1.cell? ⟨w.heap.size, 2, none⟩ = some (.int .u64 h) := cell_blk q2 2
         have k5 : w1.frozen? ⟨bm, 1, none⟩ = false := frozen_blk q1 1))
  all_goals
    go_wp2
    go_end0
    refine ⟨⟨_, rfl⟩, _, msg_set q1 _, ?_, ?_⟩
    · refine Keep.row (Keep.setCell (Z := fun b _ => b = bm) _ q1 rfl) hown' ?_
      intro g c _ hg e'
      subst e'
      rw [q1] at hg; simp at hg
    · exact ((((Keep.alloc _ w _).trans (Keep.alloc _ _ _)).trans (Keep.drew _ _)).trans (Keep.grown hgrow (fun _ _ e' _ => .inr e'))).trans (Keep.setCell _ q1 (.inl rfl))
end Go.Proofs.Qxb6609287a
