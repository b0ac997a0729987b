/-
  FRAMES for loops over iterators that hand on pointers: which blocks a step may turn ('Keep'), and the statement 'for x := range f' with rounds that all go on (out of the library's 'wpIn_rangeFunc', 'roundIn_of_wpIn').
-/
import Derived.RangeFuncNested
import Derived.RangeFuncBound
import Derived.RangeFuncCalls
import Derived.RangeFuncLeaves
import Derived.Shelf.Abstract
import Derived.WalkKit
import Derived.OwnWalkIn
import Derived.TacticsInMore
import Derived.LoopNIn
import Derived.LoopIn
import Derived.Maps.AppendAt
namespace Go.Proofs.Qxb6609287a
open Go.RowKit Go.Shelf

/-- W' is W, but for blocks of which Z holds, and new ones. -/
structure Keep (Z : Nat → Obj → Prop) (W W' : World) : Prop where
  os : W'.os = W.os
  tape : W'.tape = W.tape
  output : W'.output = W.output
  size : W.heap.size ≤ W'.heap.size
  same : ∀ b o, W.heap[b]? = some o → ¬ Z b o → W'.heap[b]? = some o

section
variable {Z Z' : Nat → Obj → Prop} {W W' W2 : World}
theorem Keep.refl (Z : Nat → Obj → Prop) (W : World) : Keep Z W W := ⟨rfl, rfl, rfl, Nat.le_refl _, fun _ _ h _ => h⟩
theorem Keep.trans (h : Keep Z W W') (k : Keep Z W' W2) : Keep Z W W2 :=
  ⟨k.os.trans h.os, k.tape.trans h.tape, k.output.trans h.output, Nat.le_trans h.size k.size, fun b o hb hz => k.same b o (h.same b o hb hz) hz⟩
theorem Keep.mono (h : Keep Z W W') (hz : ∀ b o, Z b o → Z' b o) : Keep Z' W W' := ⟨h.os, h.tape, h.output, h.size, fun b o hb hn => h.same b o hb (fun x => hn (hz b o x))⟩
/-- What may be turned is asked at the objects of W alone. -/
theorem Keep.mono' (h : Keep Z W W') (hz : ∀ b o, W.heap[b]? = some o → Z b o → Z' b o) : Keep Z' W W' := ⟨h.os, h.tape, h.output, h.size, fun b o hb hn => h.same b o hb (fun x => hn (hz b o hb x))⟩
theorem Keep.alloc (Z : Nat → Obj → Prop) (W : World) (o : Obj) : Keep Z W (W.alloc o) :=
  ⟨rfl, rfl, rfl, by simp, fun b o' hb _ => (Below.heap_alloc W o b (Array.getElem?_eq_some_iff.1 hb).1).trans hb⟩
theorem Keep.drew (Z : Nat → Obj → Prop) (W : World) : Keep Z W W.drew := ⟨rfl, rfl, rfl, Nat.le_refl _, fun _ _ h _ => h⟩
theorem Keep.setCell {a : Addr} {o : Obj} (v : Value) (ha : W.heap[a.block]? = some o) (hz : Z a.block o) : Keep Z W (W.setCell a v) :=
  ⟨rfl, rfl, rfl, by simp, fun b o' hb hn => by
    by_cases e : b = a.block
    · subst e; rw [ha] at hb; cases hb; exact absurd hz hn
    · exact (Below.heap_setCell W a v b e).trans hb⟩
theorem Keep.putObj {l : Nat} {o o' : Obj} (hl : W.heap[l]? = some o) (hz : Z l o) : Keep Z W (W.putObj l o') :=
  ⟨rfl, rfl, rfl, by simp, fun b o2 hb hn => by
    by_cases e : b = l
    · subst e; rw [hl] at hb; cases hb; exact absurd hz hn
    · exact (World.putObj_heap_other e).trans hb⟩
theorem Keep.grown {row : Option Nat} (hg : W.grownBy W' row) (hz : ∀ k o, row = some k → W.heap[k]? = some o → Z k o) : Keep Z W W' :=
  ⟨hg.os, hg.tape, hg.output, hg.size, fun b o hb hn => (hg.block b (Array.getElem?_eq_some_iff.1 hb).1 (fun e => hn (hz b o e.symm hb))).trans hb⟩
theorem Keep.below {n : Nat} (h : Keep Z W W') (hn : n ≤ W.heap.size) (hz : ∀ b o, Z b o → n ≤ b) : Below n W W' :=
  ⟨h.os, h.tape, h.output, h.size, fun k hk => by
    have hlt : k < W.heap.size := by omega
    have e : W.heap[k]? = some W.heap[k] := Array.getElem?_eq_getElem hlt
    rw [e]; exact h.same k _ e (fun x => by have := hz k _ x; omega)⟩
theorem Keep.boxed {B : Nat} {t : TypeId} {v : Value} (h : Keep Z W W') (hb : Boxed W B t v) (hz : ¬ Z B (.cells #[v] t (0, 0))) : Boxed W' B t v := h.same B _ hb hz
/-- An owned row whose block is not turned. -/
theorem Keep.row {base : Nat} {e : TypeId} {size : Nat} {v : Value} {n : Nat} {xs : List Value} (h : Keep Z W W') (hr : W.ownsRow base e size v n xs)
    (hz : ∀ g c, v.ownBlock = some g → W.heap[g]? = some (.cells c e (0, 0)) → ¬ Z g (.cells c e (0, 0))) : W'.ownsRow base e size v n xs := by
  refine ⟨hr.1, ?_⟩
  rcases hr.2 with hn | ⟨g, cap, cur, rfl, hb, hgg, rest⟩
  · exact .inl hn
  · exact .inr ⟨g, cap, cur, rfl, hb, h.same g _ hgg (hz g cur rfl hgg), rest⟩
end

/-- The base of an owned row may be lowered. -/
theorem ownsRow_base {W : World} {base base' : Nat} {e : TypeId} {size : Nat} {v : Value} {n : Nat} {xs : List Value} (h : W.ownsRow base e size v n xs) (hb : base' ≤ base) : W.ownsRow base' e size v n xs := by
  refine ⟨h.1, ?_⟩
  rcases h.2 with hn | ⟨g, cap, cur, rfl, hg, rest⟩
  · exact .inl hn
  · exact .inr ⟨g, cap, cur, rfl, Nat.le_trans hb hg, rest⟩

/-- How a round that goes on ends. -/
def goesOn (G : World → Prop) : Exit → Act → World → Prop
  | .normal, _, W => G W
  | _, _, _ => False

variable {P : Program}

/-- A CALL OF yield, OUT OF THE ROUND's WALK: the record lies ready; the assignment and the body, walked in the round, end normally with the record busy as it was laid. -/
theorem yieldAt_run {m l : Nat} {rc : Loop} {args : Array Value} {W : World} {R : Ending → World → Prop} (hl : W.heap[l]? = some (.loop rc)) (hst : rc.state = .ready) (hpe : rc.pending = none) (hps : args.size = rc.params.size)
    (h : ∀ rb : Loop, rc.assign.wpIn (Fence.wide.inRound l) m P (Exit.then (fun a1 W1 => W1.heap[l]? = some (.loop rc) ∧
        rc.body.wpIn (Fence.wide.inRound l) m P (goesOn (fun W3 => W3.heap[l]? = some (.loop rb) ∧ R (.returned (.bool true)) (W3.putObj l (.loop rc)))) a1 (W1.putObj l (.loop rb))) (fun _ _ _ => False))
      { tmps := (rc.params.zip args).foldl (fun tmps (t, a) => tmps.setIfInBounds t a) rc.tmps, defers := [] } W) :
    YieldAt Fence.wide m P l args W R := by
  refine ⟨rc.fn, _, rc.assign, rc.body, run_yield hl hps, roundIn_of_wpIn trivial (wpIn_mono (h { rc with state := .busy }) ?_)⟩
  rintro e a1 W1 hq
  cases e with
  | normal =>
    obtain ⟨hl1, hb⟩ := hq
    refine ⟨_, run_beginRound hl1 hst, wpIn_mono hb ?_⟩
    rintro e2 a2 W3 hq2
    cases e2 with
    | normal =>
      obtain ⟨hl3, hR⟩ := hq2
      refine ⟨_, _, run_endRound none hl3, ?_⟩
      have e : ({ { rc with state := .busy } with state := if (none : Option Code).isNone then .ready else .done, pending := none } : Loop) = rc := by
        cases rc; simp at hst hpe ⊢; exact ⟨hst.symm, hpe.symm⟩
      rw [e]; exact hR
    | exit id => exact hq2.elim
    | goto t => exact hq2.elim
    | ret => exact hq2.elim
    | panic c => exact hq2.elim
    | outgrown => exact hq2.elim
  | exit id => exact hq.elim
  | goto t => exact hq.elim
  | ret => exact hq.elim
  | panic c => exact hq.elim
  | outgrown => exact hq.elim

/-- The record that the statement lays. -/
def mkRec (fn : FuncId) (tmps : Array Value) (ps : Array Tmp) (assign body : Code) (d : Nat) : Loop := { state := .ready, pending := none, fn := fn, tmps := tmps, params := ps, assign := assign, body := body, defers := d }

/-- THE STATEMENT, where every round goes on. -/
theorem rangeFunc_run {n : Nat} {g : Operand} {ps : Array Tmp} {assign body : Code} {Q : Exit → Act → World → Prop} {a : Act} {w : World} {gf : Nat} {lb : Array Value}
    (hg : a.eval g = .func (.func gf) #[] lb) (eg : ∀ args w, (callFunc gf args).run P w = .ok (.enter gf args) w)
    (h : ∀ fn, CallsIn Fence.wide (n - 1) P gf (#[.func (.yield (w.heap.size + 1)) #[] #[]] ++ lb) ((w.alloc (.deferred (some []))).alloc (.loop (mkRec fn a.tmps ps assign body w.heap.size))) (fun e W2 =>
      (∃ v, e = .returned v) ∧ W2.heap[w.heap.size + 1]? = some (.loop (mkRec fn a.tmps ps assign body w.heap.size)) ∧
      ∀ rc', Q .normal { a with defers := { target := .collected w.heap.size, args := #[] } :: a.defers } (W2.putObj (w.heap.size + 1) (.loop rc')))) :
    (Code.rangeFunc g ps assign body).wpIn Fence.wide n P Q a w := by
  refine wpIn_rangeFunc ?_
  intro fn _
  have h' := h fn
  clear h
  generalize hrc : mkRec fn a.tmps ps assign body w.heap.size = rc at h'
  obtain ⟨W1, hW1⟩ : ∃ W1, (w.alloc (.deferred (some []))).alloc (.loop rc) = W1 := ⟨_, rfl⟩
  rw [hW1] at h'
  have he : (Instr.enterLoop fn a.tmps ps assign body Fence.wide.round).run P w = .ok (w.heap.size + 1, [{ target := .collected w.heap.size, args := #[] }]) W1 := by
    rw [← hW1, ← hrc]; exact run_enterLoop_outer _ _ _ _ _
  have hb : rc.state ≠ .busy := by rw [← hrc]; simp [mkRec]
  have hp : rc.pending = none := by rw [← hrc]; rfl
  refine ⟨w.heap.size + 1, [{ target := .collected w.heap.size, args := #[] }], W1, { target := .fn (.func gf) lb, args := #[.func (.yield (w.heap.size + 1)) #[] #[]] }, W1, gf,
    #[.func (.yield (w.heap.size + 1)) #[] #[]] ++ lb, W1, ?_, ?_, ?_, ?_, ?_, ?_⟩
  · exact he
  · simp only [resolve, hg]
    simp [go_sem]
  · intro f' _; exact trivial
  · simp [invoke, go_sem, eg]
  · intro hd; simp [Fence.wide] at hd
  · refine CallsIn.mono h' ?_
    rintro e W2 ⟨⟨v, rfl⟩, hl, hq⟩
    have hend := run_endLoop (P := P) hl hb
    rw [hp] at hend
    exact ⟨none, _, hend, hq _⟩

/-- Leaving a function that held one such statement: no result. -/
theorem leaves_mark {n : Nat} {fn : Func} {R : Ending → World → Prop} {tmps : Array Value} {D : Nat} {v : Value} {W : World} (hK : W.heap[D]? = some (.deferred (some [])))
    (hres : (results fn tmps).run P (W.putObj D (.deferred none)) = .ok v (W.putObj D (.deferred none))) (h : R (.returned v) (W.putObj D (.deferred none))) :
    LeavesInM Fence.wide n P fn tmps R [{ target := .collected D, args := #[] }] .returning W := by
  refine ⟨by simp, .inl ⟨_, _, rfl, run_takeDeferred hK, ?_⟩⟩
  exact ⟨_, hres, h⟩
end Go.Proofs.Qxb6609287a
