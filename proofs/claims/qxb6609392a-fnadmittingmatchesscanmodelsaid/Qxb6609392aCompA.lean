/-
  The law over completed writes: its argument, its small functions, its scan in plain words.
-/
import Derived.Test.Qxb6609392aRunA
namespace Go.Proofs.Qxb6609392a
open Go.RowKit

structure Dn where
  v : Int
  c : Int
  r : Int
def Dn.wr (y : Dn) : Wr := ⟨y.v, y.c, y.r, false, false, 0, 0⟩

/-- n completed writes Y behind the address ao. -/
def SrcD (W : World) (ao : Option Addr) (n : Nat) (Y : Nat → Dn) : Prop :=
  n = 0 ∨ ∃ b o, ao = some ⟨b, o, none⟩ ∧ ∀ k, k < n → W.cell? ⟨b, o + k * 3, none⟩ = some (.int .i64 (Y k).v) ∧ W.cell? ⟨b, o + k * 3 + 1, none⟩ = some (.int .i64 (Y k).c) ∧ W.cell? ⟨b, o + k * 3 + 2, none⟩ = some (.int .i64 (Y k).r)
theorem SrcD.keep {W W' : World} {ao : Option Addr} {n : Nat} {Y : Nat → Dn} (h : SrcD W ao n Y) (hB : Below W.heap.size W W') : SrcD W' ao n Y := by
  rcases h with h | ⟨b, o, e, h⟩
  · exact .inl h
  · exact .inr ⟨b, o, e, fun k hk => ⟨cell_keep hB (h k hk).1, cell_keep hB (h k hk).2.1, cell_keep hB (h k hk).2.2⟩⟩

theorem bytes4_fn (a : Option Addr) (n cap : Nat) (x1 x2 x3 x4 : Value) (w : World) (_hn : n ≤ maxLen) : Calls Try.prog 9 #[.slice a n cap, x1, x2, x3, x4] w fun e w' => e = .returned (.bool (decide (n ≤ 1048576))) ∧ w' = w := by
  have hm : maxLen ≤ 9223372036854775807 := by unfold maxLen; omega
  by_cases h : n ≤ 1048576
  · have hd : decide (n ≤ 1048576) = true := by simpa using h
    rw [hd]
    clear hd
    go_enter Try.func9, Try.ntmps9
    go_wp2
    go_returns
    exact ⟨rfl, rfl⟩
  · have hd : decide (n ≤ 1048576) = false := by simpa using h
    rw [hd]
    clear hd
    go_enter Try.func9, Try.ntmps9
    go_wp2
    go_returns
    exact ⟨rfl, rfl⟩

/-- Place i stands right behind place i - 1. -/
def DnStep (Y : Nat → Dn) (i : Nat) : Prop := (Y (i - 1)).v ≤ (Y i).v ∧ ((Y (i - 1)).v = (Y i).v → (Y (i - 1)).c ≤ (Y i).c)

set_option maxHeartbeats 2000000 in
theorem sortedDone_fn (ao : Option Addr) (n cap : Nat) (Y : Nat → Dn) (w : World) (hY : SrcD w ao n Y) (hn : n ≤ 4096) :
    Calls Try.prog 10 #[.slice ao n cap] w fun e w' => ∃ z : Bool, e = .returned (.bool z) ∧ (z = true → ∀ i, 1 ≤ i → i < n → DnStep Y i) ∧ Below w.heap.size w w' := by
  go_enter Try.func10, Try.ntmps10
  go_wp2_with fail
  go_loopw [3] (fun vi wr => ∃ i : Nat, vi = .int .i64 i ∧ 1 ≤ i ∧ (∀ j, 1 ≤ j → j < i → j < n → DnStep Y j) ∧ Below w.heap.size w wr) (fun vi _ => n - (intOf vi).toNat)
  case atStart => exact ⟨1, rfl, Nat.le_refl _, fun j h1 h2 => by omega, Below.refl _ _⟩
  case round =>
    obtain ⟨i, rfl, hi1, hst, bel⟩ := hrel
    have HST : Hid _ := hst
    have HB : Hid _ := bel
    clear hst bel
    by_cases hi : i < n
    · obtain ⟨b, o, hao, hc⟩ := (hY.keep HB.out).resolve_left (by omega)
      subst hao
      obtain ⟨p0, p1, -⟩ := hc (i - 1) (by omega)
      obtain ⟨q0, q1, -⟩ := hc i hi
      clear hc
      have i1 : (0 : Int) ≤ (i : Int) - 1 := by omega
      have i2 : (i : Int) - 1 < (n : Int) := by omega
      have i3 : (i : Int) < (n : Int) := by omega
      by_cases h1 : (Y i).v < (Y (i - 1)).v
      · have h1b : decide ((Y i).v < (Y (i - 1)).v) = true := by simpa using h1
        go_wp2_with fail
        go_quiet (fail)
        go_wp2_with fail
        go_returns
        exact ⟨false, rfl, (fun h => by cases h), belowN HB.out _⟩
      · have h1b : decide ((Y i).v < (Y (i - 1)).v) = false := by simpa using h1
        by_cases h2 : (Y (i - 1)).v = (Y i).v
        · have h2b : ((Y (i - 1)).v == (Y i).v) = true := by simp [h2]
          have H2 : Hid _ := h2
          clear h2
          by_cases h3 : (Y i).c < (Y (i - 1)).c
          · have h3b : decide ((Y i).c < (Y (i - 1)).c) = true := by simpa using h3
            go_wp2_with fail
            go_quiet (fail)
            go_wp2_with fail
            go_quiet (fail)
            go_wp2_with fail
            go_returns
            exact ⟨false, rfl, (fun h => by cases h), belowN (belowN HB.out _) _⟩
          · have h3b : decide ((Y i).c < (Y (i - 1)).c) = false := by simpa using h3
            have HS : Hid (DnStep Y i) := ⟨by omega, fun _ => by omega⟩
            go_wp2_with fail
            go_quiet (fail)
            go_wp2_with fail
            go_quiet (fail)
            go_wp2_with fail
            exact ⟨⟨i + 1, by go_num, by omega, fun j a1 a2 a3 => by
              by_cases e : j = i
              · subst e; exact HS.out
              · exact HST.out j a1 (by omega) a3, belowN HB.out _⟩, by simp [intOf]; omega⟩
        · have h2b : ((Y (i - 1)).v == (Y i).v) = false := by rw [beq_eq_false_iff_ne]; exact h2
          have HS : Hid (DnStep Y i) := ⟨by omega, fun e => absurd e h2⟩
          clear h2
          go_wp2_with fail
          go_quiet (fail)
          go_wp2_with fail
          go_quiet (fail)
          go_wp2_with fail
          exact ⟨⟨i + 1, by go_num, by omega, fun j a1 a2 a3 => by
            by_cases e : j = i
            · subst e; exact HS.out
            · exact HST.out j a1 (by omega) a3, belowN HB.out _⟩, by simp [intOf]; omega⟩
    · go_wp2_with fail
      go_returns
      exact ⟨true, rfl, fun _ j a1 a2 => HST.out j a1 (by omega) a2, HB.out⟩

theorem steps_le {Y : Nat → Dn} {n : Nat} (h : ∀ i, 1 ≤ i → i < n → DnStep Y i) : ∀ a b, a ≤ b → b < n → (Y a).v ≤ (Y b).v ∧ ((Y a).v = (Y b).v → (Y a).c ≤ (Y b).c) := by
  intro a b hab
  induction b with
  | zero =>
    intro hb
    obtain rfl : a = 0 := by omega
    exact ⟨Int.le_refl _, fun _ => Int.le_refl _⟩
  | succ b ih =>
    intro hb
    by_cases e : a = b + 1
    · subst e; exact ⟨Int.le_refl _, fun _ => Int.le_refl _⟩
    · obtain ⟨h1, h2⟩ := ih (by omega) (by omega)
      obtain ⟨h3, h4⟩ := h (b + 1) (by omega) hb
      rw [show b + 1 - 1 = b from by omega] at h3 h4
      exact ⟨by omega, fun e => Int.le_trans (h2 (by omega)) (h4 (by omega))⟩

/-- The full writes that the law lays: rows of seven cells, the first q of which are told. -/
def FulO (n q : Nat) (Y : Nat → Dn) (o : Obj) : Prop := ∃ cs e, o = .cells cs e (0, 0) ∧ cs.size = n * 7 ∧ ∀ i, i < q → cs[i * 7]? = some (.int .i64 (Y i).v) ∧ cs[i * 7 + 1]? = some (.int .i64 (Y i).c) ∧ cs[i * 7 + 2]? = some (.int .i64 (Y i).r) ∧
  cs[i * 7 + 3]? = some (.bool false) ∧ cs[i * 7 + 4]? = some (.bool false) ∧ cs[i * 7 + 5]? = some (.int .i64 0) ∧ cs[i * 7 + 6]? = some (.int .i64 0)
theorem FulO.of {W : World} {base b n : Nat} {e : TypeId} {L : List Value} {Y : Nat → Dn} (h : W.ownsRow base e 7 (.slice (some ⟨b, 0, none⟩) n n) n L) : ∃ o, W.heap[b]? = some o ∧ FulO n 0 Y o := by
  obtain ⟨cs, h1, h2⟩ := row_obj h
  exact ⟨_, h1, cs, e, rfl, h2, fun i hi => by omega⟩
theorem FulO.at_ {W : World} {b n q : Nat} {Y : Nat → Dn} {o : Obj} (h : W.heap[b]? = some o) (ho : FulO n q Y o) (i : Nat) (hi : i < n * 7) : (∃ u, W.cell? ⟨b, i, none⟩ = some u) ∧ W.frozen? ⟨b, i, none⟩ = false := by
  obtain ⟨cs, e, rfl, hs, _⟩ := ho
  exact ⟨⟨_, cell_of h (Array.getElem?_eq_getElem (by omega))⟩, free_of h⟩
theorem FulO.set {W : World} {b n k : Nat} {Y : Nat → Dn} {o : Obj} (h : W.heap[b]? = some o) (ho : FulO n k Y o) (hk : k < n) :
    ∃ o', (((((((W.setCell ⟨b, k * 7, none⟩ (.int .i64 (Y k).v)).setCell ⟨b, k * 7 + 1, none⟩ (.int .i64 (Y k).c)).setCell ⟨b, k * 7 + 2, none⟩ (.int .i64 (Y k).r)).setCell ⟨b, k * 7 + 3, none⟩ (.bool false)).setCell ⟨b, k * 7 + 4, none⟩ (.bool false)).setCell ⟨b, k * 7 + 5, none⟩ (.int .i64 0)).setCell ⟨b, k * 7 + 6, none⟩ (.int .i64 0)).heap[b]? = some o' ∧ FulO n (k + 1) Y o' := by
  obtain ⟨cs, e, rfl, hs, hc⟩ := ho
  refine ⟨_, setCell_obj _ (setCell_obj _ (setCell_obj _ (setCell_obj _ (setCell_obj _ (setCell_obj _ (setCell_obj _ h)))))), _, e, rfl, by simp [hs], fun i hi => ?_⟩
  by_cases ei : i = k
  · subst ei
    simp only [Array.getElem?_setIfInBounds, Array.size_setIfInBounds]
    simp
    omega
  · obtain ⟨g0, g1, g2, g3, g4, g5, g6⟩ := hc i (by omega)
    refine ⟨?_, ?_, ?_, ?_, ?_, ?_, ?_⟩ <;>
    · repeat rw [Array.getElem?_setIfInBounds_ne (by omega)]
      assumption
theorem ful_kept (W : World) (b k : Nat) (v0 v1 v2 v3 v4 v5 v6 : Value) : Kept [b] W (((((((W.setCell ⟨b, k * 7, none⟩ v0).setCell ⟨b, k * 7 + 1, none⟩ v1).setCell ⟨b, k * 7 + 2, none⟩ v2).setCell ⟨b, k * 7 + 3, none⟩ v3).setCell ⟨b, k * 7 + 4, none⟩ v4).setCell ⟨b, k * 7 + 5, none⟩ v5).setCell ⟨b, k * 7 + 6, none⟩ v6) :=
  ((((((Kept.set (X := [b]) W (p := ⟨b, k * 7, none⟩) v0 (by simp)).trans (Kept.set _ (p := ⟨b, k * 7 + 1, none⟩) v1 (by simp))).trans (Kept.set _ (p := ⟨b, k * 7 + 2, none⟩) v2 (by simp))).trans (Kept.set _ (p := ⟨b, k * 7 + 3, none⟩) v3 (by simp))).trans (Kept.set _ (p := ⟨b, k * 7 + 4, none⟩) v4 (by simp))).trans (Kept.set _ (p := ⟨b, k * 7 + 5, none⟩) v5 (by simp))).trans (Kept.set _ (p := ⟨b, k * 7 + 6, none⟩) v6 (by simp))
theorem heap_drew {W : World} {b : Nat} {P : Obj → Prop} (h : ∃ o, W.heap[b]? = some o ∧ P o) : ∃ o, W.drew.heap[b]? = some o ∧ P o := h
theorem held_drew {W : World} {a0 a1 a2 : Addr} {v0 v1 v2 : Value} (h : W.cell? a0 = some v0 ∧ W.cell? a1 = some v1 ∧ W.cell? a2 = some v2) : W.drew.cell? a0 = some v0 ∧ W.drew.cell? a1 = some v1 ∧ W.drew.cell? a2 = some v2 := h
theorem held_kept {W W' : World} {Y : List Nat} {a0 a1 a2 : Addr} {v0 v1 v2 : Value} (k : Kept Y W W') (h : W.cell? a0 = some v0 ∧ W.cell? a1 = some v1 ∧ W.cell? a2 = some v2) (b0 : a0.block ∉ Y) (b1 : a1.block ∉ Y) (b2 : a2.block ∉ Y) : W'.cell? a0 = some v0 ∧ W'.cell? a1 = some v1 ∧ W'.cell? a2 = some v2 := ⟨k.cell h.1 b0, k.cell h.2.1 b1, k.cell h.2.2 b2⟩
theorem FulO.src {W : World} {b n : Nat} {Y : Nat → Dn} {o : Obj} (h : W.heap[b]? = some o) (ho : FulO n n Y o) : SrcX W (some ⟨b, 0, none⟩) n (fun i => (Y i).wr) := by
  obtain ⟨cs, e, rfl, hs, hc⟩ := ho
  refine .inr ⟨b, 0, rfl, fun k hk => ?_⟩
  obtain ⟨g0, g1, g2, g3, g4, g5, g6⟩ := hc k hk
  rw [Nat.zero_add]
  exact ⟨cell_of h g0, cell_of h g1, cell_of h g2, cell_of h g3, cell_of h g4, cell_of h g5, cell_of h g6⟩

/-- The law's scan from above, come down to t: none found, or one. -/
def ScanS (A : Nat → Bool) (n t : Nat) (a b : Int) : Prop := (a = 0 ∧ b = -1 ∧ ∀ j, t ≤ j → j < n → A j = false) ∨
  (a = 1 ∧ ∃ q : Nat, b = q ∧ t ≤ q ∧ q < n ∧ A q = true ∧ (∀ j, q < j → j < n → A j = false) ∧ ∀ j, t ≤ j → j < q → A j = false)
/-- What admitting answers of the same scan. -/
def ScanR (A : Nat → Bool) (n : Nat) (c f : Int) : Prop := (dn A 0 n = -1 → c = 0 ∧ f = -1) ∧ ∀ q : Nat, dn A 0 n = q → c = (if dn A 0 q = -1 then 1 else 2) ∧ f = q
theorem ScanS.start (A : Nat → Bool) (n : Nat) : ScanS A n n 0 (-1) := .inl ⟨rfl, rfl, fun j h1 h2 => by omega⟩
theorem ScanS.pass {A : Nat → Bool} {n t : Nat} {a b : Int} (h : ScanS A n (t + 1) a b) (ha : A t = false) : ScanS A n t a b := by
  rcases h with ⟨h1, h2, h3⟩ | ⟨h1, q, h2, h3, h4, h5, h6, h7⟩
  · refine .inl ⟨h1, h2, fun j j1 j2 => ?_⟩
    by_cases e : j = t
    · subst e; exact ha
    · exact h3 j (by omega) j2
  · refine .inr ⟨h1, q, h2, by omega, h4, h5, h6, fun j j1 j2 => ?_⟩
    by_cases e : j = t
    · subst e; exact ha
    · exact h7 j (by omega) j2
theorem ScanS.hit {A : Nat → Bool} {n t : Nat} {b : Int} (h : ScanS A n (t + 1) 0 b) (ht : t < n) (ha : A t = true) : ScanS A n t 1 t := by
  rcases h with ⟨_, _, h3⟩ | ⟨h1, _⟩
  · exact .inr ⟨rfl, t, rfl, Nat.le_refl _, ht, ha, fun j j1 j2 => h3 j (by omega) j2, fun j j1 j2 => by omega⟩
  · omega
theorem ScanS.two {A : Nat → Bool} {n t : Nat} {b : Int} (h : ScanS A n (t + 1) 1 b) (ha : A t = true) {c f : Int} (hr : ScanR A n c f) : c = 2 ∧ f = b := by
  rcases h with ⟨h1, _⟩ | ⟨_, q, h2, h3, h4, h5, h6, h7⟩
  · omega
  · have e1 : dn A 0 n = q := dn_at h4 (Nat.zero_le _) h5 h6
    have e2 : dn A 0 q = t := dn_at (by omega) (Nat.zero_le _) ha (fun j j1 j2 => h7 j (by omega) j2)
    obtain ⟨r1, r2⟩ := hr.2 q e1
    rw [e2, if_neg (by omega)] at r1
    exact ⟨r1, by omega⟩
theorem ScanS.done {A : Nat → Bool} {n : Nat} {a b : Int} (h : ScanS A n 0 a b) {c f : Int} (hr : ScanR A n c f) : c = a ∧ f = b := by
  rcases h with ⟨h1, h2, h3⟩ | ⟨h1, q, h2, h3, h4, h5, h6, h7⟩
  · have := hr.1 (dn_none (fun j _ j2 => h3 j (Nat.zero_le _) j2)); omega
  · have e1 : dn A 0 n = q := dn_at h4 (Nat.zero_le _) h5 h6
    have e2 : dn A 0 q = -1 := dn_none (fun j _ j2 => h7 j (Nat.zero_le _) j2)
    obtain ⟨r1, r2⟩ := hr.2 q e1
    rw [e2, if_pos rfl] at r1
    exact ⟨by omega, by omega⟩
end Go.Proofs.Qxb6609392a
