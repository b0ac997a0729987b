/-
  PROOF OF 'Rows.FnNodeSiblingIndexArithmeticSaid', on the frame written by proof-skeleton.mjs off the guide's print for that function.
-/
import Derived.Test.Qxb6609287aSib
import Derived.Test.Qxb6609287aRows
import Derived.WalkKit
import Derived.ProofKit
import Derived.OpenShut
import Derived.ShutString
namespace Go.Proofs.Qxb6609287a.fnNodeSiblingIndexArithmetic
open Go.ChangeShapes Go.WideShapes Go.ChangeAt Go.RowKit
open Go.ChangeMaps (open_string shut_string)
set_option linter.unusedVariables false      -- a walk need not use every 'w<i>' (that an integer argument fits its kind)

theorem own : ownKnob Try.prog.godebug = none := by kernel_rfl


theorem ret_true {b : Bool} (h : b = true) : Ending.returned (.bool b) = .returned (.bool true) := by rw [h]
theorem grown3 (w : World) (c1 c2 c3 : Array Value) : Grown w (((w.alloc (.cells c1 25)).alloc (.cells c2 25)).alloc (.cells c3 25)).drew :=
  ((((Grown.refl w).alloc c1 25).alloc c2 25).alloc c3 25).drew

/-! ### STEP 1: THE WALK -/
set_option maxHeartbeats 400000 in
theorem walk_low (d p i : Int) (w : World) (h0 : 0 ≤ d) (h1 : d < 64) (p0 : 0 ≤ p) (p1 : p < 18446744073709551616) :
    Calls Try.prog 3 #[.int .u8 d, .int .u64 p, .int .u64 i] w fun e w' => e = .returned (.bool true) ∧ Grown w w' := by
  have L := fun hl => index_law d p i (IntKind.u64.wrap (IntKind.u64.wrap (2 ^ d.toNat) - 1)) h0 (by omega) p0 p1 hl (low_eq d.toNat (by omega))
  have HL : Hid (_ → _) := L
  clear L
  go_enter Try.func3, Try.ntmps3
  go_wp2_with (go_at_call 9; refine (sib_any d p i _ h0 (by omega)).mono ?_; rintro e w' ⟨rfl, c1, c2, rfl⟩)
  · go_ret
    exact ⟨rfl, Grown.refl _⟩
  · go_ret
    exact ⟨ret_true (beq_iff_eq.2 (HL.out (by assumption))), grown3 _ _ _ _⟩

set_option maxHeartbeats 400000 in
theorem walk_64 (p i : Int) (w : World) (p0 : 0 ≤ p) (p1 : p < 18446744073709551616) :
    Calls Try.prog 3 #[.int .u8 64, .int .u64 p, .int .u64 i] w fun e w' => e = .returned (.bool true) ∧ Grown w w' := by
  have L := index_law_64 p i p0 p1
  have HL : Hid (_ = _) := L
  clear L
  go_enter Try.func3, Try.ntmps3
  go_wp2_with (go_at_call 9; refine (sib_any 64 p i _ (by omega) (by omega)).mono ?_; rintro e w' ⟨rfl, c1, c2, rfl⟩)
  · go_ret
    exact ⟨rfl, Grown.refl _⟩
  · go_ret
    exact ⟨ret_true (beq_iff_eq.2 HL.out), grown3 _ _ _ _⟩

theorem walk (a0 : Int) (a1 : Int) (a2 : Int) (w0 : (Lit.int .u8 a0).wf = true) (w1 : (Lit.int .u64 a1).wf = true) (w2 : (Lit.int .u64 a2).wf = true) (w : World) :
    Calls Try.prog 3 #[.int .u8 a0, .int .u64 a1, .int .u64 a2] w fun e w' => e = .returned (.bool true) ∧ Grown w w' := by
  have b0 := bounds_u8 w0
  have b1 := bounds_u64 w1
  by_cases h0 : 64 < a0
  · go_enter Try.func3, Try.ntmps3
    go_wp2
    go_ret
    exact ⟨rfl, Grown.refl _⟩
  by_cases h1 : a0 = 64
  · subst h1; exact walk_64 a1 a2 w (by omega) (by omega)
  · exact walk_low a0 a1 a2 w (by omega) (by omega) (by omega) (by omega)

/-! ### THE ROW's STEP: WRITTEN OUT: LEAVE IT -/
set_option maxRecDepth 100000 in
theorem lifted (os : Os) (started : os.Started) (H : Type) (enc : TypeId × Value → H) :
    ReturnsInHanded {} Try.checked os 3 .any (Rows.fnNodeSiblingIndexArithmeticSpec.pre6 enc Try.prog Try.f3 Rows.fnNodeSiblingIndexArithmeticRow.domain false) (Rows.fnNodeSiblingIndexArithmeticSpec.post enc Try.prog Try.f3 false true false false) := by
  refine returnsInHanded_of_change (C := Try.checked) own started (by kernel_rfl) Try.func3
    (ChangeSpec.witness6 (enc := enc) (C := Try.checked) false ⟨#[], #[.int .u8 0, .int .u64 0, .int .u64 0], []⟩ 8 (by kernel_rfl) (by kernel_rfl) (by kernel_rfl) (by kernel_rfl)) ?_
  intro W base args ds gs before hval0 hW hcnd _
  have hval : ∀ (j : Nat) t v, Try.f3.params[j]? = some t → args[j]? = some v → Value.okWide Try.prog W .any base t v := hval0
  have hW' := hW
  obtain ⟨p, q, hA0, hV, rfl, hfz, hnd⟩ := hW
  have hA : DataW.TrodAll enc Try.prog W 0 (fun _ => true) true Try.f3.params.toList args.toList ds p := hA0
  rw [Try.params3] at hA hval
  obtain ⟨v0, vs0, d0, ds0, p0, q0, hargs, rfl, rfl, h0, r0⟩ := trodAll_cons hA
  obtain ⟨v1, vs1, d1, ds1, p1, q1, rfl, rfl, rfl, h1, r1⟩ := trodAll_cons r0
  obtain ⟨v2, vs2, d2, ds2, p2, q2, rfl, rfl, rfl, h2, r2⟩ := trodAll_cons r1
  obtain ⟨rfl, rfl, rfl⟩ := trodAll_nil r2
  obtain rfl : args = #[v0, v1, v2] := by cases args; simp_all
  obtain ⟨rfl, rfl⟩ := trodVars_none hV
  obtain ⟨a0, rfl, rfl, rfl, w0⟩ := open_int Try.underlying5 (hval 0 5 v0 rfl rfl) h0
  obtain ⟨a1, rfl, rfl, rfl, w1⟩ := open_int Try.underlying22 (hval 1 22 v1 rfl rfl) h1
  obtain ⟨a2, rfl, rfl, rfl, w2⟩ := open_int Try.underlying22 (hval 2 22 v2 rfl rfl) h2
  clear hA0 hval0
  simp only [List.append_nil] at hW'
  refine (walk a0 a1 a2 w0 w1 w2 W).mono fun e W' ⟨he, hg⟩ => ?_
  subst he
  exact ⟨_, rfl, post_of_same (pa := []) (pv := []) hW' (fun _ _ _ => (trodAll_cons_mk (shut_bool Try.underlying4 _) trodAll_mk0)) (fun sp _ => (trodAll_cons_mk (shut_int Try.underlying5 w0) (trodAll_cons_mk (shut_int Try.underlying22 w1) (trodAll_cons_mk (shut_int Try.underlying22 w2) trodAll_mk0)))) (fun _ _ => rfl) rfl
    (hg.frame _) hg.2.1 (ok_one (by kernel_rfl) rfl (okWide_bool_mk Try.underlying4 _))⟩

theorem over : Rows.fnNodeSiblingIndexArithmeticRow.holds Try.pinned (OpenSpec.ofChange Rows.fnNodeSiblingIndexArithmeticSpec) :=
  OpenClaim.holds_of_wide 3 Try.f3 rfl rfl rfl rfl rfl rfl rfl ⟨rfl, rfl, rfl, rfl, rfl⟩ rfl rfl rfl rfl rfl (by kernel_rfl) Try.func3 (by kernel_rfl)
    (of_decide_eq_true (by kernel_rfl)) (by unfold Func.isWrapper; first | (rw [if_pos (by decide +kernel)]; kernel_rfl) | (rw [if_neg (by decide +kernel)]; exact ⟨rfl, rfl⟩))
    (fun os started H enc _ => lifted os started H enc)

/-- ████ THE STATEMENT ████ -/
theorem proved : Rows.FnNodeSiblingIndexArithmeticSaid :=
  over
end Go.Proofs.Qxb6609287a.fnNodeSiblingIndexArithmetic
namespace Go.Proofs.Qxb6609287a
theorem fnNodeSiblingIndexArithmetic_proved : Rows.FnNodeSiblingIndexArithmeticSaid := fnNodeSiblingIndexArithmetic.proved
end Go.Proofs.Qxb6609287a
