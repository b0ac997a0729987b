/-
  PROOF OF 'Rows.FnShortIgnoresHighBitsAndLengthBitsSufficeSaid', on the frame written by proof-skeleton.mjs off the guide's print for that function.
-/
import Derived.WalkLawsBesides
import Derived.WalkSpells
import Derived.RowKit3
import Derived.Laws.BitsAllLaws
import Derived.Test.Qxb6612220aRows
import Derived.WalkKit
import Derived.ProofKit
import Derived.OpenShut
import Derived.ShutString
namespace Go.Proofs.Qxb6612220a.fnShortIgnoresHighBitsAndLengthBitsSuffice
open Go.ChangeShapes Go.WideShapes Go.ChangeAt Go.RowKit
open Go.ChangeMaps (open_string shut_string)
set_option linter.unusedVariables false      -- a walk need not use every 'w<i>' (that an integer argument fits its kind)

theorem own : ownKnob Try.prog.godebug = none := by kernel_rfl


/-! ### PLAIN -/
/-- short's answer. -/
def shortB (e n : Int) : Bool := decide (n < e % 16)
theorem and15 (e : Int) (h0 : 0 ≤ e) (h1 : e ≤ 4294967295) : bits .and .u32 e 15 = e % 16 := by
  obtain ⟨E, rfl⟩ := Int.eq_ofNat_of_zero_le h0
  have := u32_and_nat E 15 (by omega) (by omega)
  rw [nat_mask4] at this
  simpa using this
theorem other_eq (e h : Int) (h0 : 0 ≤ e) (g0 : 0 ≤ h) : bits .or .u32 (h * 16 % 4294967296) (e % 16) = h * 16 % 4294967296 + e % 16 := by
  obtain ⟨E, rfl⟩ := Int.eq_ofNat_of_zero_le h0
  obtain ⟨H, rfl⟩ := Int.eq_ofNat_of_zero_le g0
  have := u32_or_nat (H * 16 % 4294967296) (E % 16) (by omega) (by omega)
  rw [nat_join 4 _ _ (by omega) (by omega)] at this
  simpa using this
theorem short_other (e h n : Int) : shortB (h * 16 % 4294967296 + e % 16) n = shortB e n := by
  unfold shortB
  rw [show (h * 16 % 4294967296 + e % 16) % 16 = e % 16 from by omega]
theorem short_len (e : Int) : shortB e (e % 16) = false := by simp [shortB]
theorem short_less (e : Int) : shortB e (e % 16 - 1) = true := by unfold shortB; exact decide_eq_true (by omega)

/-! ### THE CALLEE -/
set_option maxHeartbeats 400000 in
theorem short_any (e n : Int) (w : World) (h0 : 0 ≤ e) (h1 : e ≤ 4294967295) :
    Calls Try.prog 4 #[.int .u32 e, .int .u64 n] w fun r w' => r = .returned (.bool (shortB e n)) ∧ w' = w := by
  have H := and15 e h0 h1
  have a1 : 0 ≤ e % 16 := by omega
  have a2 : e % 16 < 16 := by omega
  go_enter Try.func4, Try.ntmps4
  go_wp2
  go_ret
  exact ⟨rfl, rfl⟩

/-! ### STEP 1: THE WALK -/
set_option maxHeartbeats 400000 in
theorem walk_in (e h n : Int) (w : World) (h0 : 0 ≤ e) (h1 : e ≤ 4294967295) (g0 : 0 ≤ h) (hz : (e % 16 == 0) = false) :
    Calls Try.prog 3 #[.int .u32 e, .int .u32 h, .int .u64 n] w fun r w' => r = .returned (.bool true) ∧ Grown w w' := by
  have hz' : e % 16 ≠ 0 := by simpa using hz
  have a1 : 0 < e % 16 := by omega
  have a2 : e % 16 < 16 := by omega
  clear hz'
  go_enter Try.func3, Try.ntmps3
  go_wp2_with fail
  refine (short_any e n _ h0 h1).mono ?_
  rintro r w' ⟨rfl, rfl⟩
  go_wp2_with fail
  rw [other_eq e h h0 g0]
  refine (short_any _ n _ (by omega) (by omega)).mono ?_
  rw [short_other]
  rintro r w' ⟨rfl, rfl⟩
  go_wp2_with fail
  refine (short_any e _ _ h0 h1).mono ?_
  rw [short_len]
  rintro r w' ⟨rfl, rfl⟩
  go_wp2_with fail
  refine (short_any e _ _ h0 h1).mono ?_
  rw [short_less]
  rintro r w' ⟨rfl, rfl⟩
  go_wp2_with fail
  go_ret
  exact ⟨rfl, Grown.refl _⟩

set_option maxHeartbeats 400000 in
theorem walk_zero (e h n : Int) (w : World) (h0 : 0 ≤ e) (h1 : e ≤ 4294967295) (g0 : 0 ≤ h) (hz : (e % 16 == 0) = true) :
    Calls Try.prog 3 #[.int .u32 e, .int .u32 h, .int .u64 n] w fun r w' => r = .returned (.bool true) ∧ Grown w w' := by
  have hz' : e % 16 = 0 := by simpa using hz
  have a1 : 0 ≤ e % 16 := by omega
  have a2 : e % 16 < 16 := by omega
  clear hz'
  go_enter Try.func3, Try.ntmps3
  go_wp2_with fail
  refine (short_any e n _ h0 h1).mono ?_
  rintro r w' ⟨rfl, rfl⟩
  go_wp2_with fail
  rw [other_eq e h h0 g0]
  refine (short_any _ n _ (by omega) (by omega)).mono ?_
  rw [short_other]
  rintro r w' ⟨rfl, rfl⟩
  go_wp2_with fail
  refine (short_any e _ _ h0 h1).mono ?_
  rw [short_len]
  rintro r w' ⟨rfl, rfl⟩
  go_wp2_with fail
  go_ret
  exact ⟨rfl, Grown.refl _⟩

theorem walk (a0 : Int) (a1 : Int) (a2 : Int) (w0 : (Lit.int .u32 a0).wf = true) (w1 : (Lit.int .u32 a1).wf = true) (w2 : (Lit.int .u64 a2).wf = true) (w : World) :
    Calls Try.prog 3 #[.int .u32 a0, .int .u32 a1, .int .u64 a2] w fun e w' => e = .returned (.bool true) ∧ Grown w w' := by
  have b0 := bounds_u32 w0
  have b1 := bounds_u32 w1
  cases hz : (a0 % 16 == 0)
  · exact walk_in a0 a1 a2 w (by omega) (by omega) (by omega) hz
  · exact walk_zero a0 a1 a2 w (by omega) (by omega) (by omega) hz

/-! ### THE ROW's STEP: WRITTEN OUT: LEAVE IT -/
set_option maxRecDepth 100000 in
theorem lifted (os : Os) (started : os.Started) (H : Type) (enc : TypeId × Value → H) :
    ReturnsInHanded {} Try.checked os 3 .any (Rows.fnShortIgnoresHighBitsAndLengthBitsSufficeSpec.pre6 enc Try.prog Try.f3 Rows.fnShortIgnoresHighBitsAndLengthBitsSufficeRow.domain false) (Rows.fnShortIgnoresHighBitsAndLengthBitsSufficeSpec.post enc Try.prog Try.f3 false true false false) := by
  refine returnsInHanded_of_change (C := Try.checked) own started (by kernel_rfl) Try.func3
    (ChangeSpec.witness6 (enc := enc) (C := Try.checked) false ⟨#[], #[.int .u32 0, .int .u32 0, .int .u64 0], []⟩ 8 (by kernel_rfl) (by kernel_rfl) (by kernel_rfl) (by kernel_rfl)) ?_
  intro W base args ds gs before hval0 hW hcnd _
  have hval : ∀ (j : Nat) t v, Try.f3.params[j]? = some t → args[j]? = some v → Value.okWide Try.prog W .any base t v := hval0
  have hW' := hW
  obtain ⟨p, q, hA0, hV, rfl, hfz, hnd⟩ := hW
  have hA : DataW.TrodAll enc Try.prog W 0 (fun _ => true) true Try.f3.params.toList args.toList ds p := hA0
  rw [Try.params3] at hA hval
  obtain ⟨v0, vs0, d0, ds0, p0, q0, hargs, rfl, rfl, h0, r0⟩ := trodAll_cons hA
  obtain ⟨v1, vs1, d1, ds1, p1, q1, rfl, rfl, rfl, h1, r1⟩ := trodAll_cons r0
  obtain ⟨v2, vs2, d2, ds2, p2, q2, rfl, rfl, rfl, h2, r2⟩ := trodAll_cons r1
  obtain ⟨rfl, rfl, rfl⟩ := trodAll_nil r2
  obtain rfl : args = #[v0, v1, v2] := by cases args; simp_all
  obtain ⟨rfl, rfl⟩ := trodVars_none hV
  obtain ⟨a0, rfl, rfl, rfl, w0⟩ := open_int Try.underlying22 (hval 0 22 v0 rfl rfl) h0
  obtain ⟨a1, rfl, rfl, rfl, w1⟩ := open_int Try.underlying22 (hval 1 22 v1 rfl rfl) h1
  obtain ⟨a2, rfl, rfl, rfl, w2⟩ := open_int Try.underlying23 (hval 2 23 v2 rfl rfl) h2
  clear hA0 hval0
  simp only [List.append_nil] at hW'
  refine (walk a0 a1 a2 w0 w1 w2 W).mono fun e W' ⟨he, hg⟩ => ?_
  subst he
  exact ⟨_, rfl, post_of_same (pa := []) (pv := []) hW' (fun _ _ _ => (trodAll_cons_mk (shut_bool Try.underlying4 _) trodAll_mk0)) (fun sp _ => (trodAll_cons_mk (shut_int Try.underlying22 w0) (trodAll_cons_mk (shut_int Try.underlying22 w1) (trodAll_cons_mk (shut_int Try.underlying23 w2) trodAll_mk0)))) (fun _ _ => rfl) rfl
    (hg.frame _) hg.2.1 (ok_one (by kernel_rfl) rfl (okWide_bool_mk Try.underlying4 _))⟩

theorem over : Rows.fnShortIgnoresHighBitsAndLengthBitsSufficeRow.holds Try.pinned (OpenSpec.ofChange Rows.fnShortIgnoresHighBitsAndLengthBitsSufficeSpec) :=
  OpenClaim.holds_of_wide 3 Try.f3 rfl rfl rfl rfl rfl rfl rfl ⟨rfl, rfl, rfl, rfl, rfl⟩ rfl rfl rfl rfl rfl (by kernel_rfl) Try.func3 (by kernel_rfl)
    (of_decide_eq_true (by kernel_rfl)) (by unfold Func.isWrapper; first | (rw [if_pos (by decide +kernel)]; kernel_rfl) | (rw [if_neg (by decide +kernel)]; exact ⟨rfl, rfl⟩))
    (fun os started H enc _ => lifted os started H enc)

/-- ████ THE STATEMENT ████ -/
theorem proved : Rows.FnShortIgnoresHighBitsAndLengthBitsSufficeSaid :=
  over
end Go.Proofs.Qxb6612220a.fnShortIgnoresHighBitsAndLengthBitsSuffice
namespace Go.Proofs.Qxb6612220a
theorem fnShortIgnoresHighBitsAndLengthBitsSuffice_proved : Rows.FnShortIgnoresHighBitsAndLengthBitsSufficeSaid := fnShortIgnoresHighBitsAndLengthBitsSuffice.proved
end Go.Proofs.Qxb6612220a
