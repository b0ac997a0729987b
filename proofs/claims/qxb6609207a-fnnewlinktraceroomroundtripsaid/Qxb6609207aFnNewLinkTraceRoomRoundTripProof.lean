/-
  PROOF OF 'Rows.FnNewLinkTraceRoomRoundTripSaid', on the frame written by proof-skeleton.mjs off the guide's print for that function.
-/
import Derived.Test.Qxb6609207aRows
import Derived.WalkKit
import Derived.ProofKit
import Derived.OpenShut
import Derived.ShutString
namespace Go.Proofs.Qxb6609207a.fnNewLinkTraceRoomRoundTrip
open Go.ChangeShapes Go.WideShapes Go.ChangeAt Go.RowKit
open Go.ChangeMaps (open_string shut_string)
set_option linter.unusedVariables false      -- a walk need not use every 'w<i>' (that an integer argument fits its kind)

theorem own : ownKnob Try.prog.godebug = none := by kernel_rfl


/-! ### THE CALLEES -/
/-- om.ZZnewLinkTrace (and newLinkTrace, walked into): a new block whose cell 4 holds the room. -/
theorem new_any (m r : Int) (w : World) (h0 : 0 ≤ m) (h1 : m ≤ 1073741825) (hr : 0 ≤ r) (hr' : r ≤ 36028797018963968) :
    Calls Try.prog 4 #[.slice none 0 0, .int .i64 m, .slice none 0 0, .int .i64 r] w fun e w' => e = .returned (.pointer (some ⟨w.heap.size, 0, none⟩)) ∧ ∃ cs : Array Value, w' = w.alloc (.cells cs 34) ∧ cs[4]? = some (.int .i64 (r / (20 + (m + 1) * 8 + 48))) := by
  go_enter Try.func4, Try.ntmps4
  go_wp2
  go_ret
  exact ⟨rfl, _, rfl, rfl⟩

/-- om.ZZtraceRoom: reads cell 4. -/
theorem room_any (b : Nat) (v : Int) (w : World) (hc : w.cell? ⟨b, 4, none⟩ = some (.int .i64 v)) :
    Calls Try.prog 5 #[.pointer (some ⟨b, 0, none⟩)] w fun e w' => e = .returned (.int .i64 v) ∧ w' = w := by
  go_enter Try.func5, Try.ntmps5
  go_wp2
  go_ret
  exact ⟨rfl, rfl⟩

theorem cell4 (w : World) (cs : Array Value) (v : Value) (b : Nat) (hb : b = w.heap.size) (h : cs[4]? = some v) : (w.alloc (.cells cs 34)).cell? ⟨b, 4, none⟩ = some v := by
  subst hb; simp [go_sem, h]

/-! ### PLAIN ARITHMETIC -/
theorem div_exact (a p : Int) (hp : 0 < p) : a * p / p = a := Int.mul_ediv_cancel _ (by omega)
theorem div_short (a p : Int) (hp : 0 < p) : (a * p - 1) / p = a - 1 := by
  have h : a * p - 1 = (p - 1) + (a - 1) * p := by rw [Int.sub_mul]; omega
  rw [h, Int.add_mul_ediv_right _ _ (by omega), Int.ediv_eq_zero_of_lt (by omega) (by omega)]; omega
theorem div_longer (a p : Int) (ha : 0 < a) (hp : 0 < p) : a * p / (p + 8) < a := by
  refine Int.ediv_lt_of_lt_mul (by omega) ?_
  rw [Int.mul_add]; omega
theorem mul_le (a p : Int) (h1 : a ≤ 1048576) (hp : 0 ≤ p) (hp' : p ≤ 8589934668) : a * p ≤ 36028797018963968 := by
  have := Int.mul_le_mul_of_nonneg_right h1 hp
  omega

/-! ### STEP 1: THE WALK -/
set_option maxHeartbeats 1000000 in
theorem walk_pos (a0 a1 : Int) (w : World) (h0 : 0 ≤ a0) (h1 : a0 ≤ 1073741824) (g1 : 0 < a1) (g2 : a1 ≤ 1048576) :
    Calls Try.prog 3 #[.int .i64 a0, .int .i64 a1] w fun e w' => e = .returned (.bool true) ∧ Grown w w' := by
  have hp : 0 < a1 * (20 + (a0 + 1) * 8 + 48) := Int.mul_pos g1 (by omega)
  have hp' : a1 * (20 + (a0 + 1) * 8 + 48) ≤ 36028797018963968 := mul_le _ _ g2 (by omega) (by omega)
  go_enter Try.func3, Try.ntmps3
  go_wp2_with fail
  refine (new_any _ _ _ (by omega) (by omega) (by omega) (by omega)).mono ?_
  rintro e w1 ⟨rfl, cs, rfl, hcs⟩
  rw [div_exact _ _ (by omega)] at hcs
  go_wp2_with fail
  refine (room_any _ a1 _ (by exact cell4 _ _ _ _ (by simp) hcs)).mono ?_
  rintro e w1 ⟨rfl, rfl⟩
  go_wp2_with fail
  refine (new_any _ _ _ (by omega) (by omega) (by omega) (by omega)).mono ?_
  rintro e w1 ⟨rfl, cs1, rfl, hcs1⟩
  rw [div_short _ _ (by omega)] at hcs1
  go_wp2_with fail
  refine (room_any _ (a1 - 1) _ (by exact cell4 _ _ _ _ (by simp) hcs1)).mono ?_
  rintro e w1 ⟨rfl, rfl⟩
  go_wp2_with fail
  refine (new_any _ _ _ (by omega) (by omega) (by omega) (by omega)).mono ?_
  rintro e w1 ⟨rfl, cs2, rfl, hcs2⟩
  obtain ⟨v, hv, hcs2'⟩ : ∃ v : Int, v < a1 ∧ cs2[4]? = some (.int .i64 v) := by
    refine ⟨_, ?_, hcs2⟩
    rw [show (20 + (a0 + 1 + 1) * 8 + 48 : Int) = (20 + (a0 + 1) * 8 + 48) + 8 from by omega]
    exact div_longer _ _ g1 (by omega)
  clear hcs2
  go_wp2_with fail
  refine (room_any _ v _ (by exact cell4 _ _ _ _ (by simp) hcs2')).mono ?_
  rintro e w1 ⟨rfl, rfl⟩
  go_wp2_with fail
  go_ret
  exact ⟨rfl, by repeat (first | exact Grown.refl _ | apply Grown.drew | apply Grown.alloc)⟩

set_option maxHeartbeats 1000000 in
theorem walk_zero (a0 : Int) (w : World) (h0 : 0 ≤ a0) (h1 : a0 ≤ 1073741824) :
    Calls Try.prog 3 #[.int .i64 a0, .int .i64 0] w fun e w' => e = .returned (.bool true) ∧ Grown w w' := by
  go_enter Try.func3, Try.ntmps3
  go_wp2_with fail
  refine (new_any _ _ _ (by omega) (by omega) (by omega) (by omega)).mono ?_
  rintro e w1 ⟨rfl, cs, rfl, hcs⟩
  rw [Int.zero_ediv] at hcs
  go_wp2_with fail
  refine (room_any _ 0 _ (by exact cell4 _ _ _ _ (by simp) hcs)).mono ?_
  rintro e w1 ⟨rfl, rfl⟩
  go_wp2_with fail
  go_ret
  exact ⟨rfl, by repeat (first | exact Grown.refl _ | apply Grown.drew | apply Grown.alloc)⟩

theorem walk (a0 : Int) (a1 : Int) (w0 : (Lit.int .i64 a0).wf = true) (w1 : (Lit.int .i64 a1).wf = true) (w : World) :
    Calls Try.prog 3 #[.int .i64 a0, .int .i64 a1] w fun e w' => e = .returned (.bool true) ∧ Grown w w' := by
  by_cases h0 : a0 < 0
  · go_enter Try.func3, Try.ntmps3
    go_wp2
    go_ret
    exact ⟨rfl, Grown.refl _⟩
  by_cases h1 : 1073741824 < a0
  · go_enter Try.func3, Try.ntmps3
    go_wp2
    go_ret
    exact ⟨rfl, Grown.refl _⟩
  by_cases g0 : a1 < 0
  · go_enter Try.func3, Try.ntmps3
    go_wp2
    go_ret
    exact ⟨rfl, Grown.refl _⟩
  by_cases g1 : 1048576 < a1
  · go_enter Try.func3, Try.ntmps3
    go_wp2
    go_ret
    exact ⟨rfl, Grown.refl _⟩
  by_cases g2 : a1 = 0
  · subst g2; exact walk_zero a0 w (by omega) (by omega)
  · exact walk_pos a0 a1 w (by omega) (by omega) (by omega) (by omega)

/-! ### THE ROW's STEP: WRITTEN OUT: LEAVE IT -/
set_option maxRecDepth 100000 in
theorem lifted (os : Os) (started : os.Started) (H : Type) (enc : TypeId × Value → H) :
    ReturnsInHanded {} Try.checked os 3 .any (Rows.fnNewLinkTraceRoomRoundTripSpec.pre6 enc Try.prog Try.f3 Rows.fnNewLinkTraceRoomRoundTripRow.domain false) (Rows.fnNewLinkTraceRoomRoundTripSpec.post enc Try.prog Try.f3 false true false false) := by
  refine returnsInHanded_of_change (C := Try.checked) own started (by kernel_rfl) Try.func3
    (ChangeSpec.witness6 (enc := enc) (C := Try.checked) false ⟨#[], #[.int .i64 0, .int .i64 0], []⟩ 8 (by kernel_rfl) (by kernel_rfl) (by kernel_rfl) (by kernel_rfl)) ?_
  intro W base args ds gs before hval0 hW hcnd _
  have hval : ∀ (j : Nat) t v, Try.f3.params[j]? = some t → args[j]? = some v → Value.okWide Try.prog W .any base t v := hval0
  have hW' := hW
  obtain ⟨p, q, hA0, hV, rfl, hfz, hnd⟩ := hW
  have hA : DataW.TrodAll enc Try.prog W 0 (fun _ => true) true Try.f3.params.toList args.toList ds p := hA0
  rw [Try.params3] at hA hval
  obtain ⟨v0, vs0, d0, ds0, p0, q0, hargs, rfl, rfl, h0, r0⟩ := trodAll_cons hA
  obtain ⟨v1, vs1, d1, ds1, p1, q1, rfl, rfl, rfl, h1, r1⟩ := trodAll_cons r0
  obtain ⟨rfl, rfl, rfl⟩ := trodAll_nil r1
  obtain rfl : args = #[v0, v1] := by cases args; simp_all
  obtain ⟨rfl, rfl⟩ := trodVars_none hV
  obtain ⟨a0, rfl, rfl, rfl, w0⟩ := open_int Try.underlying3 (hval 0 3 v0 rfl rfl) h0
  obtain ⟨a1, rfl, rfl, rfl, w1⟩ := open_int Try.underlying2 (hval 1 2 v1 rfl rfl) h1
  clear hA0 hval0
  simp only [List.append_nil] at hW'
  refine (walk a0 a1 w0 w1 W).mono fun e W' ⟨he, hg⟩ => ?_
  subst he
  exact ⟨_, rfl, post_of_same (pa := []) (pv := []) hW' (fun _ _ _ => (trodAll_cons_mk (shut_bool Try.underlying4 _) trodAll_mk0)) (fun sp _ => (trodAll_cons_mk (shut_int Try.underlying3 w0) (trodAll_cons_mk (shut_int Try.underlying2 w1) trodAll_mk0))) (fun _ _ => rfl) rfl
    (hg.frame _) hg.2.1 (ok_one (by kernel_rfl) rfl (okWide_bool_mk Try.underlying4 _))⟩

theorem over : Rows.fnNewLinkTraceRoomRoundTripRow.holds Try.pinned (OpenSpec.ofChange Rows.fnNewLinkTraceRoomRoundTripSpec) :=
  OpenClaim.holds_of_wide 3 Try.f3 rfl rfl rfl rfl rfl rfl rfl ⟨rfl, rfl, rfl, rfl, rfl⟩ rfl rfl rfl rfl rfl (by kernel_rfl) Try.func3 (by kernel_rfl)
    (of_decide_eq_true (by kernel_rfl)) (by unfold Func.isWrapper; first | (rw [if_pos (by decide +kernel)]; kernel_rfl) | (rw [if_neg (by decide +kernel)]; exact ⟨rfl, rfl⟩))
    (fun os started H enc _ => lifted os started H enc)

/-- ████ THE STATEMENT ████ -/
theorem proved : Rows.FnNewLinkTraceRoomRoundTripSaid :=
  over
end Go.Proofs.Qxb6609207a.fnNewLinkTraceRoomRoundTrip
namespace Go.Proofs.Qxb6609207a
theorem fnNewLinkTraceRoomRoundTrip_proved : Rows.FnNewLinkTraceRoomRoundTripSaid := fnNewLinkTraceRoomRoundTrip.proved
end Go.Proofs.Qxb6609207a
