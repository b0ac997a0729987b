/-
  zzSortPairs.
-/
import Derived.Test.Qxb6609392aBuild
namespace Go.Proofs.Qxb6609392a
open Go.RowKit

theorem OwnF.far {W : World} {b n : Nat} {N : Nat → Int} (h : OwnF W b n N) {p : Addr} (hp : p.block ≠ b) (v : Value) : OwnF (W.setCell p v) b n N :=
  ⟨fun k hk => set_far (h.ints k hk) (fun e => hp (by rw [e])), fun k hk => by simpa using h.free k hk⟩

/-- Two neighbours change places. -/
def sw (j x : Nat) : Nat := if x = j then j - 1 else if x = j - 1 then j else x
theorem sw_sw (j x : Nat) (hj : 1 ≤ j) : sw j (sw j x) = x := by unfold sw; split <;> split <;> (try split) <;> omega
theorem sw_lt {j x n : Nat} (hj : j < n) (hx : x < n) : sw j x < n := by unfold sw; split <;> (try split) <;> omega

/-- The pairs (K', T') are the pairs (K, T) in another order. -/
def PermF (n : Nat) (K T K' T' : Nat → Int) : Prop :=
  ∃ π ρ : Nat → Nat, (∀ i, i < n → π i < n ∧ ρ i < n ∧ ρ (π i) = i ∧ π (ρ i) = i) ∧ ∀ i, i < n → K' i = K (π i) ∧ T' i = T (π i)
theorem PermF.refl (n : Nat) (K T : Nat → Int) : PermF n K T K T := ⟨id, id, fun _ hi => ⟨hi, hi, rfl, rfl⟩, fun _ _ => ⟨rfl, rfl⟩⟩
theorem PermF.swap {n : Nat} {K T K' T' K2 T2 : Nat → Int} (h : PermF n K T K' T') (j : Nat) (hj : 1 ≤ j) (hjn : j < n) (hk : ∀ i, i < n → K2 i = K' (sw j i)) (ht : ∀ i, i < n → T2 i = T' (sw j i)) : PermF n K T K2 T2 := by
  obtain ⟨π, ρ, h1, h2⟩ := h
  refine ⟨fun i => π (sw j i), fun i => sw j (ρ i), fun i hi => ?_, fun i hi => ?_⟩
  · have a := h1 (sw j i) (sw_lt hjn hi)
    have b := h1 i hi
    exact ⟨a.1, sw_lt hjn b.2.1, by show sw j (ρ (π (sw j i))) = i; rw [a.2.2.1, sw_sw j i hj], by show π (sw j (sw j (ρ i))) = i; rw [sw_sw j _ hj]; exact b.2.2.2⟩
  · have a := h2 (sw j i) (sw_lt hjn hi)
    exact ⟨(hk i hi).trans a.1, (ht i hi).trans a.2⟩

/-- The keys before place i ascend. -/
def Asc (K : Nat → Int) (i : Nat) : Prop := ∀ a b, a ≤ b → b < i → K a ≤ K b
/-- .. but for the one at place j, which is no greater than those behind it. -/
def AscBut (K : Nat → Int) (i j : Nat) : Prop := (∀ a b, a ≤ b → b ≤ i → a ≠ j → b ≠ j → K a ≤ K b) ∧ ∀ b, j < b → b ≤ i → K j ≤ K b
theorem Asc.but {K : Nat → Int} {i : Nat} (h : Asc K i) : AscBut K i i := ⟨fun a b h1 h2 h3 h4 => h a b h1 (by omega), fun b h1 h2 => by omega⟩
theorem AscBut.done {K : Nat → Int} {i j : Nat} (h : AscBut K i j) (hj : j ≤ i) (hc : j = 0 ∨ K (j - 1) ≤ K j) : Asc K (i + 1) := by
  intro a b h1 h2
  by_cases ea : a = j
  · by_cases eb : b = j
    · subst ea; subst eb; exact Int.le_refl _
    · subst ea; exact h.2 b (by omega) (by omega)
  · by_cases eb : b = j
    · subst eb
      rcases hc with hc | hc
      · omega
      · by_cases e2 : a = b - 1
        · subst e2; exact hc
        · exact Int.le_trans (h.1 a (b - 1) (by omega) (by omega) ea (by omega)) hc
    · exact h.1 a b h1 (by omega) ea eb
theorem AscBut.step {K K2 : Nat → Int} {i j : Nat} (h : AscBut K i j) (hj : 1 ≤ j) (hji : j ≤ i) (hc : K j < K (j - 1)) (hk : ∀ x, x ≤ i → K2 x = K (sw j x)) : AscBut K2 i (j - 1) := by
  constructor
  · intro a b h1 h2 h3 h4
    rw [hk a (by omega), hk b h2]
    unfold sw
    by_cases ea : a = j
    · rw [if_pos ea]
      by_cases eb : b = j
      · rw [if_pos eb]; exact Int.le_refl _
      · rw [if_neg eb, if_neg h4]; exact h.1 (j - 1) b (by omega) h2 (by omega) (by omega)
    · rw [if_neg ea, if_neg h3]
      by_cases eb : b = j
      · rw [if_pos eb]; exact h.1 a (j - 1) (by omega) (by omega) ea (by omega)
      · rw [if_neg eb, if_neg h4]; exact h.1 a b h1 h2 ea eb
  · intro b h1 h2
    rw [hk (j - 1) (by omega), hk b h2]
    unfold sw
    rw [if_neg (show ¬ j - 1 = j from by omega), if_pos rfl]
    by_cases eb : b = j
    · rw [if_pos eb]; exact Int.le_of_lt hc
    · rw [if_neg eb, if_neg (by omega)]; exact h.2 b (by omega) h2

set_option maxHeartbeats 4000000 in
theorem sortPairs_fn (gk ck gt ct n : Nat) (K T : Nat → Int) (w : World) (hK : OwnF w gk n K) (hT : OwnF w gt n T) (hne : gk ≠ gt) (hn : n ≤ 8192) :
    Calls Try.prog 18 #[.slice (some ⟨gk, 0, none⟩) n ck, .slice (some ⟨gt, 0, none⟩) n ct] w fun e w' => ∃ K' T' : Nat → Int, e = .returned (.tuple #[]) ∧ OwnF w' gk n K' ∧ OwnF w' gt n T' ∧ Asc K' n ∧ PermF n K T K' T' ∧ Kept [gk, gt] w w' := by
  go_enter Try.func18, Try.ntmps18
  go_wp2_with fail
  go_loopw [4] (fun vi wr => ∃ (i : Nat) (K' T' : Nat → Int), vi = .int .i64 i ∧ 1 ≤ i ∧ i ≤ n + 1 ∧ OwnF wr gk n K' ∧ OwnF wr gt n T' ∧ (i ≤ n → Asc K' i) ∧ (n < i → Asc K' n) ∧ PermF n K T K' T' ∧ Kept [gk, gt] w wr) (fun vi _ => n + 1 - (intOf vi).toNat)
  case atStart => exact ⟨1, K, T, rfl, Nat.le_refl _, by omega, hK, hT, fun _ a b h1 h2 => by rw [show a = b from by omega]; exact Int.le_refl _, fun h a b h1 h2 => by omega, PermF.refl n K T, Kept.refl _ _⟩
  case round =>
    clear hK hT
    obtain ⟨i, K1, T1, rfl, hi1, hi2, hK, hT, ha1, ha2, hpm, hkp⟩ := hrel
    have HA1 : Hid _ := ha1
    have HA2 : Hid _ := ha2
    have HPM : Hid (PermF n K T K1 T1) := hpm
    clear ha1 ha2 hpm
    by_cases hlt : i < n
    · go_wp2_with fail
      go_loopw [5] (fun vj wr => ∃ (j : Nat) (K' T' : Nat → Int), vj = .int .i64 j ∧ j ≤ i ∧ OwnF wr gk n K' ∧ OwnF wr gt n T' ∧ AscBut K' i j ∧ PermF n K T K' T' ∧ Kept [gk, gt] w wr) (fun vj _ => (intOf vj).toNat)
      case atStart => exact ⟨i, K1, T1, rfl, Nat.le_refl _, hK, hT, (HA1.out (by omega)).but, HPM.out, hkp⟩
      case round =>
        clear hK hT hkp HPM HA1 HA2
        obtain ⟨j, K2, T2, rfl, hj, hK, hT, hab, hpm, hkp⟩ := hrel
        have HAB : Hid (AscBut K2 i j) := hab
        have HPM : Hid (PermF n K T K2 T2) := hpm
        clear hab hpm
        by_cases hj0 : 0 < j
        · have k1 := hK.ints (j - 1) (by omega)
          have k2 := hK.ints j (by omega)
          have i1 : (0 : Int) ≤ (j : Int) - 1 := by omega
          have i2 : (j : Int) - 1 < (n : Int) := by omega
          have i3 : (j : Int) < (n : Int) := by omega
          by_cases hc : K2 j < K2 (j - 1)
          · have hin : ∀ x, (if x = j then K2 (j - 1) else if x = j - 1 then K2 j else K2 x) = K2 (sw j x) := fun x => by
              unfold sw; split
              · rfl
              · split <;> rfl
            have hit : ∀ x, (if x = j then T2 (j - 1) else if x = j - 1 then T2 j else T2 x) = T2 (sw j x) := fun x => by
              unfold sw; split
              · rfl
              · split <;> rfl
            have HAN : Hid (AscBut (fun x => if x = j then K2 (j - 1) else if x = j - 1 then K2 j else K2 x) i (j - 1)) := AscBut.step HAB.out (by omega) hj hc (fun x _ => hin x)
            have HPN : Hid (PermF n K T (fun x => if x = j then K2 (j - 1) else if x = j - 1 then K2 j else K2 x) (fun x => if x = j then T2 (j - 1) else if x = j - 1 then T2 j else T2 x)) := PermF.swap HPM.out j (by omega) (by omega) (fun x _ => hin x) (fun x _ => hit x)
            clear hin hit
            go_wp2_with fail
            go_quiet (fail)
            have hK5 := hK.keep (belowN (Below.refl _ wr) nq)
            have hT5 := hT.keep (belowN (Below.refl _ wr) nq)
            have hkp5 := hkp.trans (Kept.of (belowN (Below.refl _ wr) nq))
            clear hK hT hkp k1 k2
            generalize wr.drewN nq = W5 at *
            have hne' : gt ≠ gk := fun e => hne e.symm
            have hjj : ¬ j - 1 = j := by omega
            have hjj' : ¬ j = j - 1 := by omega
            have k1 := hK5.ints (j - 1) (by omega)
            have k2 := hK5.ints j (by omega)
            have f1 := hK5.free (j - 1) (by omega)
            have f2 := hK5.free j (by omega)
            have t1 := hT5.ints (j - 1) (by omega)
            have t2 := hT5.ints j (by omega)
            have f3 := hT5.free (j - 1) (by omega)
            have f4 := hT5.free j (by omega)
            have q1 := (((hK5.set (j - 1) (K2 j)).set j (K2 (j - 1))).far (p := ⟨gt, j - 1, none⟩) hne' (.int .i64 (T2 j))).far (p := ⟨gt, j, none⟩) hne' (.int .i64 (T2 (j - 1)))
            have q2 := (((hT5.far (p := ⟨gk, j - 1, none⟩) hne (.int .i64 (K2 j))).far (p := ⟨gk, j, none⟩) hne (.int .i64 (K2 (j - 1)))).set (j - 1) (T2 j)).set j (T2 (j - 1))
            have q3 := (((hkp5.trans (Kept.set _ (X := [gk, gt]) (p := ⟨gk, j - 1, none⟩) (.int .i64 (K2 j)) (by simp))).trans (Kept.set _ (X := [gk, gt]) (p := ⟨gk, j, none⟩) (.int .i64 (K2 (j - 1))) (by simp))).trans (Kept.set _ (X := [gk, gt]) (p := ⟨gt, j - 1, none⟩) (.int .i64 (T2 j)) (by simp))).trans (Kept.set _ (X := [gk, gt]) (p := ⟨gt, j, none⟩) (.int .i64 (T2 (j - 1))) (by simp))
            have Q1 : Hid _ := q1
            have Q2 : Hid _ := q2
            have Q3 : Hid _ := q3
            clear q1 q2 q3 hK5 hT5 hkp5
            go_wp2_with fail
            exact ⟨⟨j - 1, _, _, by go_num, by omega, Q1.out, Q2.out, HAN.out, HPN.out, Q3.out⟩, by simp [intOf]; omega⟩
          · have hcd : decide (K2 j < K2 (j - 1)) = false := by simpa using hc
            have HD : Hid (Asc K2 (i + 1)) := AscBut.done HAB.out hj (.inr (by omega))
            go_wp2_with fail
            go_quiet (fail)
            go_wp2_with fail
            exact ⟨⟨i + 1, K2, T2, by go_num, by omega, by omega, hK.keep (belowN (Below.refl _ wr) _), hT.keep (belowN (Below.refl _ wr) _), fun _ => HD.out, fun h => by omega, HPM.out, hkp.trans (Kept.of (belowN (Below.refl _ wr) _))⟩, by simp [intOf]; omega⟩
        · have hcd : decide ((0 : Int) < (j : Int)) = false := by simp; omega
          have hcd2 : decide (0 < j) = false := by simp; omega
          have HD : Hid (Asc K2 (i + 1)) := AscBut.done HAB.out hj (.inl (by omega))
          go_wp2_with fail
          go_quiet (fail)
          go_wp2_with fail
          exact ⟨⟨i + 1, K2, T2, by go_num, by omega, by omega, hK.keep (belowN (Below.refl _ wr) _), hT.keep (belowN (Below.refl _ wr) _), fun _ => HD.out, fun h => by omega, HPM.out, hkp.trans (Kept.of (belowN (Below.refl _ wr) _))⟩, by simp [intOf]; omega⟩
    · go_wp2_with fail
      go_returns
      refine ⟨K1, T1, rfl, hK, hT, ?_, HPM.out, hkp⟩
      by_cases e : i ≤ n
      · have e2 : i = n := by omega
        rw [← e2]; exact HA1.out e
      · exact HA2.out (by omega)
end Go.Proofs.Qxb6609392a
