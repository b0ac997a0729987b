/-
  PROOF OF 'Rows.FnNodeSiblingWalkSaid', on the frame written by proof-skeleton.mjs off the guide's print for that function.
-/
import Derived.Test.Qxb6609287aSib
import Derived.Laws.StructEq
import Derived.Test.Qxb6609287aRows
import Derived.WalkKit
import Derived.ProofKit
import Derived.OpenShut
import Derived.ShutString
namespace Go.Proofs.Qxb6609287a.fnNodeSiblingWalk
open Go.ChangeShapes Go.WideShapes Go.ChangeAt Go.RowKit
open Go.ChangeMaps (open_string shut_string)
set_option linter.unusedVariables false      -- a walk need not use every 'w<i>' (that an integer argument fits its kind)

theorem own : ownKnob Try.prog.godebug = none := by kernel_rfl


/-! ### STEP 1: THE WALK -/
set_option maxHeartbeats 1000000 in
theorem walk_in (d p i j : Int) (w : World) (h0 : 0 ≤ d) (h1 : d ≤ 64) (p0 : 0 ≤ p) (p1 : p < 18446744073709551616)
    (hlow : (bits .and .u64 p (IntKind.u64.wrap (IntKind.u64.wrap (2 ^ (64 - d).toNat) - 1)) != 0) = false) :
    Calls Try.prog 4 #[.int .u8 d, .int .u64 p, .int .u64 i, .int .u64 j] w fun e w' => e = .returned (.bool true) ∧ Grown w w' := by
  have e1 := bne_eq_false_iff_eq.2 (next_law d p h0 h1 p0 p1 hlow)
  have e2 := sib_sib d p i j h0 h1
  have e3 : sibOf d (sibOf d p i) (IntKind.u64.wrap (-i)) = p := by
    have := sib_back d p i h0 h1 p0 p1
    rwa [Int.zero_sub] at this
  go_enter Try.func4, Try.ntmps4
  go_wp2_with (go_at_call 9; refine (sib_any d p 1 _ h0 h1).mono ?_; rintro e w' ⟨rfl, c1, c2, rfl⟩)
  go_region_held3 (fun w' => w'.cell? ⟨w.heap.size, 0, none⟩ = some (.int .u8 d) ∧ w'.cell? ⟨w.heap.size, 1, none⟩ = some (.int .u64 p)) (simp [go_sem, World.cell?_alloc_past])
    (first
      | (go_at_call 9; refine (sib_any _ _ _ _ h0 h1).mono ?_; rintro e w' ⟨rfl, o1, o2, rfl⟩))
  go_wp2_with fail
  go_region_held3 (fun w' => w'.cell? ⟨w.heap.size, 0, none⟩ = some (.int .u8 d) ∧ w'.cell? ⟨w.heap.size, 1, none⟩ = some (.int .u64 p)) (simp [go_sem, World.cell?_alloc_past])
    (first
      | (go_at_call 9; refine (sib_any _ _ _ _ h0 h1).mono ?_; rintro e w' ⟨rfl, o1, o2, rfl⟩))
  go_wp2_with fail
  go_ret
  refine ⟨rfl, ?_⟩
  repeat (first | with_reducible exact Grown.refl _ | with_reducible refine Grown.alloc ?_ _ _ | with_reducible refine Grown.drew ?_)

theorem walk (a0 : Int) (a1 : Int) (a2 : Int) (a3 : Int) (w0 : (Lit.int .u8 a0).wf = true) (w1 : (Lit.int .u64 a1).wf = true) (w2 : (Lit.int .u64 a2).wf = true) (w3 : (Lit.int .u64 a3).wf = true) (w : World) :
    Calls Try.prog 4 #[.int .u8 a0, .int .u64 a1, .int .u64 a2, .int .u64 a3] w fun e w' => e = .returned (.bool true) ∧ Grown w w' := by
  have b0 := bounds_u8 w0
  have b1 := bounds_u64 w1
  by_cases h0 : 64 < a0
  · go_enter Try.func4, Try.ntmps4
    go_wp2
    go_ret
    exact ⟨rfl, Grown.refl _⟩
  cases hl : (bits .and .u64 a1 (IntKind.u64.wrap (IntKind.u64.wrap (2 ^ (64 - a0).toNat) - 1)) != 0)
  · exact walk_in a0 a1 a2 a3 w (by omega) (by omega) (by omega) (by omega) hl
  · have c0 : 0 ≤ a0 := by omega
    have c1 : a0 ≤ 64 := by omega
    go_enter Try.func4, Try.ntmps4
    go_wp2
    go_ret
    exact ⟨rfl, Grown.refl _⟩


/-! ### THE ROW's STEP: WRITTEN OUT: LEAVE IT -/
set_option maxRecDepth 100000 in
theorem lifted (os : Os) (started : os.Started) (H : Type) (enc : TypeId × Value → H) :
    ReturnsInHanded {} Try.checked os 4 .any (Rows.fnNodeSiblingWalkSpec.pre6 enc Try.prog Try.f4 Rows.fnNodeSiblingWalkRow.domain false) (Rows.fnNodeSiblingWalkSpec.post enc Try.prog Try.f4 false true false false) := by
  refine returnsInHanded_of_change (C := Try.checked) own started (by kernel_rfl) Try.func4
    (ChangeSpec.witness6 (enc := enc) (C := Try.checked) false ⟨#[], #[.int .u8 0, .int .u64 0, .int .u64 0, .int .u64 0], []⟩ 8 (by kernel_rfl) (by kernel_rfl) (by kernel_rfl) (by kernel_rfl)) ?_
  intro W base args ds gs before hval0 hW hcnd _
  have hval : ∀ (j : Nat) t v, Try.f4.params[j]? = some t → args[j]? = some v → Value.okWide Try.prog W .any base t v := hval0
  have hW' := hW
  obtain ⟨p, q, hA0, hV, rfl, hfz, hnd⟩ := hW
  have hA : DataW.TrodAll enc Try.prog W 0 (fun _ => true) true Try.f4.params.toList args.toList ds p := hA0
  rw [Try.params4] at hA hval
  obtain ⟨v0, vs0, d0, ds0, p0, q0, hargs, rfl, rfl, h0, r0⟩ := trodAll_cons hA
  obtain ⟨v1, vs1, d1, ds1, p1, q1, rfl, rfl, rfl, h1, r1⟩ := trodAll_cons r0
  obtain ⟨v2, vs2, d2, ds2, p2, q2, rfl, rfl, rfl, h2, r2⟩ := trodAll_cons r1
  obtain ⟨v3, vs3, d3, ds3, p3, q3, rfl, rfl, rfl, h3, r3⟩ := trodAll_cons r2
  obtain ⟨rfl, rfl, rfl⟩ := trodAll_nil r3
  obtain rfl : args = #[v0, v1, v2, v3] := by cases args; simp_all
  obtain ⟨rfl, rfl⟩ := trodVars_none hV
  obtain ⟨a0, rfl, rfl, rfl, w0⟩ := open_int Try.underlying5 (hval 0 5 v0 rfl rfl) h0
  obtain ⟨a1, rfl, rfl, rfl, w1⟩ := open_int Try.underlying22 (hval 1 22 v1 rfl rfl) h1
  obtain ⟨a2, rfl, rfl, rfl, w2⟩ := open_int Try.underlying22 (hval 2 22 v2 rfl rfl) h2
  obtain ⟨a3, rfl, rfl, rfl, w3⟩ := open_int Try.underlying22 (hval 3 22 v3 rfl rfl) h3
  clear hA0 hval0
  simp only [List.append_nil] at hW'
  refine (walk a0 a1 a2 a3 w0 w1 w2 w3 W).mono fun e W' ⟨he, hg⟩ => ?_
  subst he
  exact ⟨_, rfl, post_of_same (pa := []) (pv := []) hW' (fun _ _ _ => (trodAll_cons_mk (shut_bool Try.underlying4 _) trodAll_mk0)) (fun sp _ => (trodAll_cons_mk (shut_int Try.underlying5 w0) (trodAll_cons_mk (shut_int Try.underlying22 w1) (trodAll_cons_mk (shut_int Try.underlying22 w2) (trodAll_cons_mk (shut_int Try.underlying22 w3) trodAll_mk0))))) (fun _ _ => rfl) rfl
    (hg.frame _) hg.2.1 (ok_one (by kernel_rfl) rfl (okWide_bool_mk Try.underlying4 _))⟩

theorem over : Rows.fnNodeSiblingWalkRow.holds Try.pinned (OpenSpec.ofChange Rows.fnNodeSiblingWalkSpec) :=
  OpenClaim.holds_of_wide 4 Try.f4 rfl rfl rfl rfl rfl rfl rfl ⟨rfl, rfl, rfl, rfl, rfl⟩ rfl rfl rfl rfl rfl (by kernel_rfl) Try.func4 (by kernel_rfl)
    (of_decide_eq_true (by kernel_rfl)) (by unfold Func.isWrapper; first | (rw [if_pos (by decide +kernel)]; kernel_rfl) | (rw [if_neg (by decide +kernel)]; exact ⟨rfl, rfl⟩))
    (fun os started H enc _ => lifted os started H enc)

/-- ████ THE STATEMENT ████ -/
theorem proved : Rows.FnNodeSiblingWalkSaid :=
  over
end Go.Proofs.Qxb6609287a.fnNodeSiblingWalk
namespace Go.Proofs.Qxb6609287a
theorem fnNodeSiblingWalk_proved : Rows.FnNodeSiblingWalkSaid := fnNodeSiblingWalk.proved
end Go.Proofs.Qxb6609287a
