/-
  ZZPackSeqs$1: THE PLAIN ITERATOR OVER A SLICE OF TOPICS.
-/
import Derived.Test.Qxb6609287aPackSmall
import Derived.Shelf.RegionOpen
namespace Go.Proofs.Qxb6609287a
open Go.RowKit Go.Shelf

attribute [local go_sem] Oper.semAt_some

theorem take_snoc_at {xs : List Top} {k : Nat} {x : Top} (h : xs[k]? = some x) : xs = xs.take k ++ x :: xs.drop (k + 1) ∧ xs.take k ++ [x] = xs.take (k + 1) := by
  obtain ⟨hk, rfl⟩ := List.getElem?_eq_some_iff.1 h
  refine ⟨?_, (List.take_succ_eq_append_getElem hk).symm⟩
  rw [← List.drop_eq_getElem_cons hk, List.take_append_drop]

set_option maxRecDepth 100000 in
set_option maxHeartbeats 1000000 in
theorem seq_in (m l Bt : Nat) (g cap : Nat) (xs : List Top) (J : List Top → World → Prop)
    (rJ : ∀ pre W, J pre W → W.ownsRow 0 60 3 (.slice (some ⟨g, 0, none⟩) xs.length cap) xs.length (flat xs))
    (sJ : ∀ pre W c, J pre W → J pre (W.alloc (.cells c 60)))
    (yJ : ∀ pre x post W, xs = pre ++ x :: post → J pre W → YieldAt Fence.wide m Try.prog l #[x.val] W fun e W' => e = .returned (.bool true) ∧ J (pre ++ [x]) W')
    (W : World) (hBt : W.cell? ⟨Bt, 0, none⟩ = some (.slice (some ⟨g, 0, none⟩) xs.length cap)) (h0 : J [] W) (hlen : xs.length ≤ 1048576) :
    CallsIn Fence.wide (m + 1) Try.prog 29 #[.func (.yield l) #[] #[], .pointer (some ⟨Bt, 0, none⟩)] W fun e W' => (∃ v, e = .returned v) ∧ J xs W' := by
  refine callsIn_of_wp Try.func29 rfl trivial ?_ rfl
  simp only [Try.ntmps29, List.size_toArray, List.length_cons, List.length_nil, Nat.reduceAdd, Nat.reduceSub, Array.replicate_succ, Array.replicate_zero, List.push_toArray, List.append_toArray, List.nil_append, List.cons_append]
  gi_wp2
  gi_loopw [7] (fun p wr => ∃ k : Nat, k ≤ xs.length ∧ p = .int .i64 k ∧ J (xs.take k) wr) (fun p _ => xs.length - (intOf p).toNat)
  case atStart => exact ⟨0, Nat.zero_le _, rfl, by simpa using h0⟩
  case round =>
    obtain ⟨k, hk, rfl, hJ⟩ := hrel
    by_cases hlt : k < xs.length
    · obtain ⟨x, hx⟩ : ∃ x, xs[k]? = some x := ⟨_, List.getElem?_eq_getElem hlt⟩
      have hrow := rJ _ _ hJ
      have c0 : wr.cell? ⟨g, k * 3, none⟩ = some (.string x.s) := (hrow.cellAt (k * 3) (by omega)).trans (by simpa [Top.cells] using flat_at hx 0 (by omega))
      have c1 : wr.cell? ⟨g, k * 3 + 1, none⟩ = some (.int .u64 x.t) := (hrow.cellAt (k * 3 + 1) (by omega)).trans (by simpa [Top.cells] using flat_at hx 1 (by omega))
      have c2 : wr.cell? ⟨g, k * 3 + 2, none⟩ = some (.int .u64 x.h) := (hrow.cellAt (k * 3 + 2) (by omega)).trans (by simpa [Top.cells] using flat_at hx 2 (by omega))
      clear hrow
      obtain ⟨hsp, htk⟩ := take_snoc_at hx
      obtain ⟨fn, tmps, assign, body, hy, hR⟩ := yJ (xs.take k) x _ _ hsp (sJ _ wr #[.string x.s, .int .u64 x.t, .int .u64 x.h] hJ)
      rw [htk] at hR
      have HR : Hid _ := hR
      clear hsp htk hR
      unfold Top.val at hy
      gi_wp2
      refine RoundIn.mono HR.out ?_
      rintro e W3 ⟨rfl, hJ3⟩
      gi_wp2
      go_roundw
      case rel => exact ⟨k + 1, by omega, by go_num, hJ3⟩
      case measure => simp [intOf]; omega
    · obtain rfl : k = xs.length := by omega
      rw [List.take_length] at hJ
      gi_wp2
      go_end0
      exact ⟨⟨_, rfl⟩, hJ⟩
end Go.Proofs.Qxb6609287a
