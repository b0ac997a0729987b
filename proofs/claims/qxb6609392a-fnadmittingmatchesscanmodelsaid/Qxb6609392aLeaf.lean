/-
  The small functions of the road.
-/
import Derived.Test.Qxb6609392aRows
import Derived.WalkKit
import Derived.WalkLawsBesides
import Derived.WalkSpells
import Derived.Deep.RegionLaw
import Derived.Deep.RegionHeld3
import Derived.Deep.QuietTactic
import Derived.BigQuiet
import Derived.Below
import Derived.Handy
import Derived.OwnWalk
import Derived.Laws.EntriesVeiled
namespace Go.Proofs.Qxb6609392a
open Go.RowKit

/-- One write, as the law's struct has it. -/
structure Wr where
  v : Int
  c : Int
  r : Int
  failed : Bool
  read : Bool
  rc : Int
  rr : Int
def Wr.val (x : Wr) : Value := .agg #[.int .i64 x.v, .int .i64 x.c, .int .i64 x.r, .bool x.failed, .bool x.read, .int .i64 x.rc, .int .i64 x.rr]
def Wr.last (x : Wr) : Int := if x.read then max x.c x.rc else x.c
def Wr.fr (x : Wr) : Int := if x.read then min (if x.failed then 9223372036854775807 else x.r) x.rr else (if x.failed then 9223372036854775807 else x.r)
def Wr.slot (x : Wr) : Bool := !x.failed || x.read
def Wr.idle (x : Wr) : Bool := x.failed && !x.read

theorem below1 (w : World) (a : Obj) : Below w.heap.size w (w.alloc a) := (Below.refl _ _).alloc (Nat.le_refl _) _
theorem below2 (w : World) (a b : Obj) : Below w.heap.size w ((w.alloc a).alloc b) := (below1 w a).alloc (below1 w a).size _
theorem below3 (w : World) (a b c : Obj) : Below w.heap.size w (((w.alloc a).alloc b).alloc c) := (below2 w a b).alloc (below2 w a b).size _

theorem max64_any (a b : Int) (w : World) : Calls Try.prog 11 #[.int .i64 a, .int .i64 b] w fun e w' => e = .returned (.int .i64 (max a b)) ∧ w' = w := by
  by_cases h : b < a
  · have e : max a b = a := by omega
    rw [e]; clear e
    go_enter Try.func11, Try.ntmps11
    go_wp2
    go_returns
    exact ⟨rfl, rfl⟩
  · have e : max a b = b := by omega
    rw [e]; clear e
    go_enter Try.func11, Try.ntmps11
    go_wp2
    go_returns
    exact ⟨rfl, rfl⟩

theorem min64_any (a b : Int) (w : World) : Calls Try.prog 12 #[.int .i64 a, .int .i64 b] w fun e w' => e = .returned (.int .i64 (min a b)) ∧ w' = w := by
  by_cases h : a < b
  · have e : min a b = a := by omega
    rw [e]; clear e
    go_enter Try.func12, Try.ntmps12
    go_wp2
    go_returns
    exact ⟨rfl, rfl⟩
  · have e : min a b = b := by omega
    rw [e]; clear e
    go_enter Try.func12, Try.ntmps12
    go_wp2
    go_returns
    exact ⟨rfl, rfl⟩

theorem regOp_any (b f : Bool) (v c r : Int) (w : World) : Calls Try.prog 13 #[.bool b, .int .i64 v, .int .i64 c, .int .i64 r, .bool f] w fun e w' =>
    e = .returned (.agg #[.bool b, .int .i64 v, .int .i64 c, .int .i64 r, .bool f]) ∧ Below w.heap.size w w' := by
  go_enter Try.func13, Try.ntmps13
  go_wp2
  go_returns
  exact ⟨rfl, (Below.refl _ _).alloc (Nat.le_refl _) _⟩

theorem cluster_any (a b c : Int) (w : World) : Calls Try.prog 15 #[.int .i64 a, .int .i64 b, .int .i64 c] w fun e w' =>
    e = .returned (.agg #[.int .i64 a, .int .i64 b, .int .i64 c]) ∧ Below w.heap.size w w' := by
  go_enter Try.func15, Try.ntmps15
  go_wp2
  go_returns
  exact ⟨rfl, (Below.refl _ _).alloc (Nat.le_refl _) _⟩

theorem span_any (a b : Int) (w : World) : Calls Try.prog 17 #[.int .i64 a, .int .i64 b] w fun e w' =>
    e = .returned (.agg #[.int .i64 a, .int .i64 b]) ∧ Below w.heap.size w w' := by
  go_enter Try.func17, Try.ntmps17
  go_wp2
  go_returns
  exact ⟨rfl, (Below.refl _ _).alloc (Nat.le_refl _) _⟩

theorem read_any (b f : Bool) (v c r s : Int) (w : World) : Calls Try.prog 20 #[.agg #[.bool b, .int .i64 v, .int .i64 c, .int .i64 r, .bool f], .int .i64 s] w fun e w' =>
    e = .returned (.agg #[.bool b, .int .i64 v, .int .i64 c, .int .i64 r, .bool f, .int .i64 s]) ∧ Below w.heap.size w w' := by
  go_enter Try.func20, Try.ntmps20
  go_wp2
  go_returns
  exact ⟨rfl, below2 w _ _⟩

theorem tree_any (p : Int) (a : Option Addr) (l c : Nat) (w : World) : Calls Try.prog 22 #[.int .i64 p, .slice a l c] w fun e w' =>
    e = .returned (.agg #[.int .i64 p, .slice a l c]) ∧ Below w.heap.size w w' := by
  go_enter Try.func22, Try.ntmps22
  go_wp2
  go_returns
  exact ⟨rfl, (Below.refl _ _).alloc (Nat.le_refl _) _⟩

theorem over_any (a a' : Option Addr) (l c l' c' : Nat) (w : World) : Calls Try.prog 23 #[.slice a l c, .slice a' l' c'] w fun e w' =>
    e = .returned (.agg #[.slice a l c, .slice a' l' c']) ∧ Below w.heap.size w w' := by
  go_enter Try.func23, Try.ntmps23
  go_wp2
  go_returns
  exact ⟨rfl, (Below.refl _ _).alloc (Nat.le_refl _) _⟩

theorem idle_any (x : Wr) (w : World) : Calls Try.prog 16 #[x.val] w fun e w' => e = .returned (.bool x.idle) ∧ Below w.heap.size w w' := by
  obtain ⟨v, c, r, f, rd, rc, rr⟩ := x
  unfold Wr.val Wr.idle
  cases f <;> cases rd <;>
  · go_enter Try.func16, Try.ntmps16
    go_wp2
    go_returns
    exact ⟨rfl, (Below.refl _ _).alloc (Nat.le_refl _) _⟩

theorem belowN {B : Nat} {a w : World} (h : Below B a w) (n : Nat) : Below B a (w.drewN n) := h.trans ⟨rfl, rfl, rfl, Nat.le_refl _, fun _ _ => rfl⟩

theorem clusterOf_any (x : Wr) (w : World) : Calls Try.prog 14 #[x.val] w fun e w' => e = .returned (.tuple #[.int .i64 x.last, .int .i64 x.fr, .bool x.slot]) ∧ Below w.heap.size w w' := by
  obtain ⟨v, c, r, f, rd, rc, rr⟩ := x
  unfold Wr.val Wr.last Wr.fr Wr.slot
  cases f <;> cases rd <;>
  · go_enter Try.func14, Try.ntmps14
    go_wp2_with (first | (refine (max64_any _ _ _).mono ?_; rintro e w' ⟨rfl, rfl⟩) | (refine (min64_any _ _ _).mono ?_; rintro e w' ⟨rfl, rfl⟩))
    go_quiet (fail)
    all_goals
      go_wp2
      go_returns
      exact ⟨rfl, belowN (below1 w _) _⟩

theorem with_any (a b c : Int) (bb f : Bool) (v c' r : Int) (w : World) : Calls Try.prog 37 #[.agg #[.int .i64 a, .int .i64 b, .int .i64 c], .agg #[.bool bb, .int .i64 v, .int .i64 c', .int .i64 r, .bool f]] w fun e w' =>
    e = .returned (.agg #[.int .i64 a, .int .i64 (max b c'), .int .i64 (min c r)]) ∧ Below w.heap.size w w' := by
  by_cases h1 : b < c' <;> by_cases h2 : r < c
  · rw [show max b c' = c' from by omega, show min c r = r from by omega]
    go_enter Try.func37, Try.ntmps37
    go_wp2
    go_returns
    exact ⟨rfl, below3 w _ _ _⟩
  · rw [show max b c' = c' from by omega, show min c r = c from by omega]
    go_enter Try.func37, Try.ntmps37
    go_wp2
    go_returns
    exact ⟨rfl, below3 w _ _ _⟩
  · rw [show max b c' = b from by omega, show min c r = r from by omega]
    go_enter Try.func37, Try.ntmps37
    go_wp2
    go_returns
    exact ⟨rfl, below3 w _ _ _⟩
  · rw [show max b c' = b from by omega, show min c r = c from by omega]
    go_enter Try.func37, Try.ntmps37
    go_wp2
    go_returns
    exact ⟨rfl, below3 w _ _ _⟩

theorem less_any (a b : Int) (w : World) : Calls Try.prog 38 #[.int .i64 a, .int .i64 b] w fun e w' => e = .returned (.bool (decide (a < b))) ∧ w' = w := by
  go_enter Try.func38, Try.ntmps38
  go_wp2
  go_returns
  exact ⟨rfl, rfl⟩
end Go.Proofs.Qxb6609392a
