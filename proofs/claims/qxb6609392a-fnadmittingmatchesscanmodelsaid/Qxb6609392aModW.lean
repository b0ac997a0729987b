/-
  The scan model's own functions: zzNext, zzAdmitsModel, zzOfferModel.
-/
import Derived.Test.Qxb6609392aModQ
import Derived.Test.Qxb6609392aRunA
namespace Go.Proofs.Qxb6609392a
open Go.RowKit

/-- The model's state: the candidates V in block bq, the place in block bp, the steps in block bs. -/
structure MS (W : World) (bq bp bs : Nat) (V : List Nat) (pos : Nat) (s : Int) : Prop where
  q : ∀ k (h : k < V.length), W.cell? ⟨bq, k, none⟩ = some (.int .i64 (V[k] : Nat))
  p : W.cell? ⟨bp, 0, none⟩ = some (.int .i64 pos)
  s : W.cell? ⟨bs, 0, none⟩ = some (.int .i64 s)
  zp : W.frozen? ⟨bp, 0, none⟩ = false
  zs : W.frozen? ⟨bs, 0, none⟩ = false
  le : pos ≤ V.length
theorem MS.keep {W W' : World} {bq bp bs : Nat} {V : List Nat} {pos : Nat} {s : Int} (h : MS W bq bp bs V pos s) (hB : Below W.heap.size W W') : MS W' bq bp bs V pos s :=
  ⟨fun k hk => cell_keep hB (h.q k hk), cell_keep hB h.p, cell_keep hB h.s, (hB.frozen (p := ⟨bp, 0, none⟩) (World.block_lt_of_cell? W _ h.p)).trans h.zp, (hB.frozen (p := ⟨bs, 0, none⟩) (World.block_lt_of_cell? W _ h.s)).trans h.zs, h.le⟩
theorem MS.setS {W : World} {bq bp bs : Nat} {V : List Nat} {pos : Nat} {s : Int} (h : MS W bq bp bs V pos s) (h1 : bq ≠ bs) (h2 : bp ≠ bs) (z : Int) : MS (W.setCell ⟨bs, 0, none⟩ (.int .i64 z)) bq bp bs V pos z :=
  ⟨fun k hk => set_far (h.q k hk) (by intro x; cases x; exact h1 rfl), set_far h.p (by intro x; cases x; exact h2 rfl), World.cell?_setCell_same _ _ _ h.s, by simpa using h.zp, by simpa using h.zs, h.le⟩
theorem MS.setP {W : World} {bq bp bs : Nat} {V : List Nat} {pos : Nat} {s : Int} (h : MS W bq bp bs V pos s) (h1 : bq ≠ bp) (h2 : bs ≠ bp) (hp : pos < V.length) : MS (W.setCell ⟨bp, 0, none⟩ (.int .i64 ((pos : Int) + 1))) bq bp bs V (pos + 1) s :=
  ⟨fun k hk => set_far (h.q k hk) (by intro x; cases x; exact h1 rfl), by rw [show ((pos + 1 : Nat) : Int) = (pos : Int) + 1 from by omega]; exact World.cell?_setCell_same _ _ _ h.p, set_far h.s (by intro x; cases x; exact h2 rfl), by simpa using h.zp, by simpa using h.zs, hp⟩

/-- What zzNext answers. -/
def NextR (V : List Nat) (pos : Nat) (s r : Int) (pos' : Nat) (s' : Int) : Prop :=
  (s ≤ 0 ∧ r = -1 ∧ pos' = pos ∧ s' = -1) ∨ (0 < s ∧ s' = s - 1 ∧ ((∃ h : pos < V.length, r = (V[pos] : Nat) ∧ pos' = pos + 1) ∨ (pos = V.length ∧ r = -1 ∧ pos' = pos)))

set_option maxHeartbeats 2000000 in
theorem next26_fn (bq cap bp bs : Nat) (V : List Nat) (pos : Nat) (s : Int) (w : World) (h : MS w bq bp bs V pos s) (h1 : bq ≠ bs) (h2 : bp ≠ bs) (h3 : bq ≠ bp) (hl : V.length ≤ 8192) (hsb : s ≤ 9223372036854775807) :
    Calls Try.prog 26 #[.slice (some ⟨bq, 0, none⟩) V.length cap, .pointer (some ⟨bp, 0, none⟩), .pointer (some ⟨bs, 0, none⟩)] w fun e w' => ∃ r : Int, e = .returned (.int .i64 r) ∧ ∃ (pos' : Nat) (s' : Int), NextR V pos s r pos' s' ∧ MS w' bq bp bs V pos' s' ∧ Kept [bp, bs] w w' := by
  have c1 := h.p
  have c2 := h.s
  have z1 := h.zp
  have z2 := h.zs
  have le := h.le
  have h2' : bs ≠ bp := fun e => h2 e.symm
  by_cases hs : s ≤ 0
  · have HM : Hid _ := h.setS h1 h2 (-1)
    have HK : Hid _ := Kept.set (X := [bp, bs]) w (p := ⟨bs, 0, none⟩) (.int .i64 (-1)) (by simp)
    clear h
    go_enter Try.func26, Try.ntmps26
    go_wp2_with fail
    go_returns
    exact ⟨-1, rfl, pos, -1, .inl ⟨hs, rfl, rfl, rfl⟩, HM.out, HK.out⟩
  · by_cases hp : pos < V.length
    · have c3 := h.q pos hp
      have HM : Hid _ := (h.setS h1 h2 (s - 1)).setP h3 h2' hp
      have HK : Hid _ := (Kept.set (X := [bp, bs]) w (p := ⟨bs, 0, none⟩) (.int .i64 (s - 1)) (by simp)).trans (Kept.set (X := [bp, bs]) _ (p := ⟨bp, 0, none⟩) (.int .i64 ((pos : Int) + 1)) (by simp))
      generalize hV : V[pos] = x at *
      have HV : Hid _ := hV
      clear h hV
      go_enter Try.func26, Try.ntmps26
      go_wp2_with fail
      go_returns
      exact ⟨x, rfl, pos + 1, s - 1, .inr ⟨by omega, rfl, .inl ⟨hp, by rw [HV.out], rfl⟩⟩, HM.out, HK.out⟩
    · have HM : Hid _ := h.setS h1 h2 (s - 1)
      have HK : Hid _ := Kept.set (X := [bp, bs]) w (p := ⟨bs, 0, none⟩) (.int .i64 (s - 1)) (by simp)
      clear h
      go_enter Try.func26, Try.ntmps26
      go_wp2_with fail
      go_returns
      exact ⟨-1, rfl, pos, s - 1, .inr ⟨by omega, rfl, .inr ⟨by omega, rfl, rfl⟩⟩, HM.out, HK.out⟩

def BadM (X : Nat → Wr) (i : Nat) (rc rr : Int) (x : Nat) : Prop := x ≠ i ∧ (X x).slot = true ∧ (X x).fr < max (X i).last rc ∧ min (X i).fr rr < (X x).last
theorem takes_badM {n : Nat} {X : Nat → Wr} {nv rc rr : Int} {i : Nat} : TakesM n X nv rc rr i ↔ nv ≤ min (X i).fr rr ∧ ∀ x, x < n → ¬ BadM X i rc rr x := by
  unfold TakesM BadM
  constructor
  · rintro ⟨h1, h2⟩
    exact ⟨h1, fun x hx ⟨a, b, c, d⟩ => h2 ⟨x, hx, a, b, c, d⟩⟩
  · rintro ⟨h1, h2⟩
    exact ⟨h1, fun ⟨x, hx, a, b, c, d⟩ => h2 x hx ⟨a, b, c, d⟩⟩
theorem SrcX.all {W : World} {b o n : Nat} {X : Nat → Wr} (h : SrcX W (some ⟨b, o, none⟩) n X) (k : Nat) (hk : k < n) : W.cell? ⟨b, o + k * 7, none⟩ = some (.int .i64 (X k).v) ∧ W.cell? ⟨b, o + k * 7 + 1, none⟩ = some (.int .i64 (X k).c) ∧ W.cell? ⟨b, o + k * 7 + 2, none⟩ = some (.int .i64 (X k).r) ∧
    W.cell? ⟨b, o + k * 7 + 3, none⟩ = some (.bool (X k).failed) ∧ W.cell? ⟨b, o + k * 7 + 4, none⟩ = some (.bool (X k).read) ∧ W.cell? ⟨b, o + k * 7 + 5, none⟩ = some (.int .i64 (X k).rc) ∧ W.cell? ⟨b, o + k * 7 + 6, none⟩ = some (.int .i64 (X k).rr) := by
  rcases h with h | ⟨b', o', e, h⟩
  · omega
  · cases e; exact h k hk

set_option maxHeartbeats 4000000 in
theorem admits27_fn (b o n cap : Nat) (X : Nat → Wr) (i : Nat) (nv rc rr : Int) (w : World) (hX : SrcX w (some ⟨b, o, none⟩) n X) (hi : i < n) (hn : n ≤ 4096) :
    Calls Try.prog 27 #[.slice (some ⟨b, o, none⟩) n cap, .int .i64 i, .int .i64 nv, .int .i64 rc, .int .i64 rr] w fun e w' => ∃ z : Bool, e = .returned (.bool z) ∧ (z = true ↔ TakesM n X nv rc rr i) ∧ Below w.heap.size w w' := by
  obtain ⟨s0, s1, s2, s3, s4, s5, s6⟩ := hX.all i hi
  have i0 : (i : Int) < (n : Int) := by omega
  by_cases hfr : nv ≤ min (X i).fr rr
  case neg =>
    have hfb : decide (min (X i).fr rr < nv) = true := by simp only [decide_eq_true_eq]; omega
    have HF : Hid _ := hfr
    clear hfr
    go_enter Try.func27, Try.ntmps27
    go_wp2_with fail
    refine (clusterOf_any (X i) _).mono ?_
    rintro e W1 ⟨rfl, B1⟩
    go_wp2_with (first | (go_at_call 11; refine (max64_any _ _ _).mono ?_; rintro e w' ⟨rfl, hw1⟩; have hw2 := hw1.symm; subst hw2) | (go_at_call 12; refine (min64_any _ _ _).mono ?_; rintro e w' ⟨rfl, hw1⟩; have hw2 := hw1.symm; subst hw2))
    go_returns
    exact ⟨false, rfl, ⟨(fun h => by cases h), fun h => absurd h.1 HF.out⟩, B1⟩
  case pos =>
  have hfb : decide (min (X i).fr rr < nv) = false := by simp only [decide_eq_false_iff_not]; omega
  have HF : Hid _ := hfr
  clear hfr
  go_enter Try.func27, Try.ntmps27
  go_wp2_with fail
  refine (clusterOf_any (X i) _).mono ?_
  rintro e W1 ⟨rfl, B1⟩
  clear s0 s1 s2 s3 s4 s5 s6
  have HB1 : Hid _ := B1
  clear B1
  go_wp2_with (first | (go_at_call 11; refine (max64_any _ _ _).mono ?_; rintro e w' ⟨rfl, hw1⟩; have hw2 := hw1.symm; subst hw2) | (go_at_call 12; refine (min64_any _ _ _).mono ?_; rintro e w' ⟨rfl, hw1⟩; have hw2 := hw1.symm; subst hw2))
  go_loopw [14] (fun vj wr => ∃ j : Nat, j ≤ n ∧ vj = .int .i64 j ∧ (∀ x, x < j → ¬ BadM X i rc rr x) ∧ Below w.heap.size w wr) (fun vj _ => n - (intOf vj).toNat)
  case atStart => exact ⟨0, Nat.zero_le _, rfl, fun x hx => by omega, HB1.out⟩
  case round =>
    clear HB1
    obtain ⟨j, hjn, rfl, hbd, bel⟩ := hrel
    have HBD : Hid (∀ x, x < j → ¬ BadM X i rc rr x) := hbd
    have HB : Hid _ := bel
    clear hbd bel
    by_cases hj : j < n
    · obtain ⟨s0, s1, s2, s3, s4, s5, s6⟩ := (hX.keep HB.out).all j hj
      have i5 : (j : Int) < (n : Int) := by omega
      have nb : ∀ (_ : ¬ BadM X i rc rr j), ∀ x, x < j + 1 → ¬ BadM X i rc rr x := fun h x hx => by
        by_cases e : x = j
        · subst e; exact h
        · exact HBD.out x (by omega)
      by_cases hji : j = i
      · have hjb : ((j : Int) == (i : Int)) = true := by simp [hji]
        have HN : Hid _ := nb (fun h => h.1 hji)
        clear nb hji
        go_wp2_with fail
        exact ⟨⟨j + 1, by omega, by go_num, HN.out, HB.out⟩, by simp [intOf]; omega⟩
      · have hjb : ((j : Int) == (i : Int)) = false := by rw [beq_eq_false_iff_ne]; exact fun e => hji (by omega)
        have HJI : Hid _ := hji
        clear hji
        go_wp2_with fail
        refine (clusterOf_any (X j) _).mono ?_
        rintro e W2 ⟨rfl, B2⟩
        have HB2 : Hid _ := HB.out.trans (B2.mono HB.out.size)
        clear B2 HB s0 s1 s2 s3 s4 s5 s6
        cases hsl : (X j).slot with
        | false =>
          have HN : Hid _ := nb (fun h => by rw [h.2.1] at hsl; cases hsl)
          clear nb
          go_wp2_with fail
          exact ⟨⟨j + 1, by omega, by go_num, HN.out, HB2.out⟩, by simp [intOf]; omega⟩
        | true =>
          by_cases hb1 : (X j).fr < max (X i).last rc
          · have hb1b : decide ((X j).fr < max (X i).last rc) = true := decide_eq_true hb1
            by_cases hb2 : min (X i).fr rr < (X j).last
            · have hb2b : decide (min (X i).fr rr < (X j).last) = true := decide_eq_true hb2
              have HBAD : Hid (BadM X i rc rr j) := ⟨HJI.out, hsl, hb1, hb2⟩
              clear nb hb1 hb2
              go_wp2_with fail
              go_returns
              exact ⟨false, rfl, ⟨(fun h => by cases h), fun h => absurd HBAD.out ((takes_badM.1 h).2 j hj)⟩, HB2.out⟩
            · have hb2b : decide (min (X i).fr rr < (X j).last) = false := decide_eq_false hb2
              have HN : Hid _ := nb (fun h => hb2 h.2.2.2)
              clear nb hb1 hb2
              go_wp2_with fail
              exact ⟨⟨j + 1, by omega, by go_num, HN.out, HB2.out⟩, by simp [intOf]; omega⟩
          · have hb1b : decide ((X j).fr < max (X i).last rc) = false := decide_eq_false hb1
            have HN : Hid _ := nb (fun h => hb1 h.2.2.1)
            clear nb hb1
            go_wp2_with fail
            exact ⟨⟨j + 1, by omega, by go_num, HN.out, HB2.out⟩, by simp [intOf]; omega⟩
    · go_wp2_with fail
      go_returns
      exact ⟨true, rfl, ⟨fun _ => takes_badM.2 ⟨HF.out, fun x hx => HBD.out x (by omega)⟩, fun _ => rfl⟩, HB.out⟩

/-- Where the place stands, out of memory. -/
def placeOf (W : World) (bp : Nat) : Nat := match W.cell? ⟨bp, 0, none⟩ with | some v => (intOf v).toNat | none => 0
theorem MS.pos {W : World} {bq bp bs : Nat} {V : List Nat} {pos : Nat} {s : Int} (h : MS W bq bp bs V pos s) : placeOf W bp = pos := by simp [placeOf, h.p, intOf]
/-- Behind one zzNext. -/
def aftL (tk : Nat → Bool) (r : Int) (l : List Nat) (s : Int) : Int × List Nat × Int := if r < 0 then (-1, l, s) else if tk r.toNat = true then (r, l, s) else offL tk l s
theorem offL_next {tk : Nat → Bool} {V : List Nat} {pos : Nat} {s r : Int} {pos' : Nat} {s' : Int} (h : NextR V pos s r pos' s') (hp : pos ≤ V.length) : offL tk (V.drop pos) s = aftL tk r (V.drop pos') s' ∧ (0 ≤ r → ∃ hq : pos < V.length, r = (V[pos] : Nat) ∧ pos' = pos + 1) ∧ pos' ≤ V.length ∧ s' ≤ max s (-1) := by
  rcases h with ⟨h1, rfl, rfl, rfl⟩ | ⟨h1, rfl, ⟨hq, rfl, rfl⟩ | ⟨rfl, rfl, rfl⟩⟩
  · refine ⟨?_, fun h => by omega, hp, by omega⟩
    unfold aftL
    rw [if_pos (by omega)]
    cases V.drop pos' <;> (unfold offL; rw [if_pos h1])
  · refine ⟨?_, fun _ => ⟨hq, rfl, rfl⟩, hq, by omega⟩
    rw [List.drop_eq_getElem_cons hq, offL, if_neg (by omega)]
    unfold aftL
    have e : ¬ ((V[pos] : Nat) : Int) < 0 := by omega
    rw [if_neg e, Int.toNat_natCast]
  · refine ⟨?_, fun h => by omega, hp, by omega⟩
    unfold aftL
    rw [if_pos (by omega), List.drop_length, offL, if_neg (by omega)]

set_option maxHeartbeats 4000000 in
theorem offer24_fn (ao : Option Addr) (n cap bq capq bp bs : Nat) (X : Nat → Wr) (V : List Nat) (pos : Nat) (s nv rc rr : Int) (tk : Nat → Bool) (w : World) (hX : SrcX w ao n X) (hn : n ≤ 4096) (h : MS w bq bp bs V pos s) (h1 : bq ≠ bs) (h2 : bp ≠ bs) (h3 : bq ≠ bp) (h4 : n = 0 ∨ ∀ a, ao = some a → a.block < bp ∧ a.block < bs) (hl : V.length ≤ 8192) (hsb : s ≤ 9223372036854775807)
    (hV : ∀ i ∈ V, i < n) (htk : ∀ i, i < n → (tk i = true ↔ TakesM n X nv rc rr i)) :
    Calls Try.prog 24 #[.slice ao n cap, .slice (some ⟨bq, 0, none⟩) V.length capq, .pointer (some ⟨bp, 0, none⟩), .pointer (some ⟨bs, 0, none⟩), .int .i64 nv, .int .i64 rc, .int .i64 rr] w fun e w' => e = .returned (.int .i64 (offL tk (V.drop pos) s).1) ∧ ∃ pos' : Nat, MS w' bq bp bs V pos' (offL tk (V.drop pos) s).2.2 ∧ V.drop pos' = (offL tk (V.drop pos) s).2.1 ∧ Kept [bp, bs] w w' := by
  obtain ⟨R, hR⟩ : ∃ R, R = offL tk (V.drop pos) s := ⟨_, rfl⟩
  rw [← hR]
  have HR : Hid _ := hR
  clear hR
  have srcK : ∀ W' : World, Kept [bp, bs] w W' → SrcX W' ao n X := fun W' hk => by
    rcases hX with e | ⟨b, o, e, hc⟩
    · exact .inl e
    · by_cases hz : n = 0
      · exact .inl hz
      have hb : b ∉ [bp, bs] := by have := h4.resolve_left hz _ e; simp; simp at this; omega
      refine .inr ⟨b, o, e, fun k hk' => ?_⟩
      obtain ⟨c0, c1, c2, c3, c4, c5, c6⟩ := hc k hk'
      exact ⟨hk.cell c0 hb, hk.cell c1 hb, hk.cell c2 hb, hk.cell c3 hb, hk.cell c4 hb, hk.cell c5 hb, hk.cell c6 hb⟩
  have SRC : Hid _ := srcK
  have HVM : Hid _ := hV
  have HTK : Hid _ := htk
  have HM0 : Hid _ := h
  clear srcK hV htk h h4 hX
  go_enter Try.func24, Try.ntmps24
  go_wp2_with fail
  refine (next26_fn bq capq bp bs V pos s _ HM0.out h1 h2 h3 hl hsb).mono ?_
  rintro e W1 ⟨r, rfl, pos1, s1, hnr, hm1, hk1⟩
  obtain ⟨o1, o2, o3, o4⟩ := offL_next (tk := tk) hnr HM0.out.le
  have HRA : Hid (R = aftL tk r (V.drop pos1) s1) := by
    have := HR.out
    exact (by rw [this]; exact o1 : R = aftL tk r (V.drop pos1) s1)
  have HIN : Hid (0 ≤ r → r.toNat < n) := by
    exact (fun hr0 => by
      obtain ⟨hq, e, _⟩ := o2 hr0
      rw [e, Int.toNat_natCast]
      exact HVM.out _ (List.getElem_mem hq) : 0 ≤ r → r.toNat < n)
  have HM1 : Hid _ := hm1
  have HK1 : Hid _ := hk1
  have hs1 : s1 ≤ 9223372036854775807 := by omega
  clear HR HM0 hnr hm1 hk1 o1 o2 o3 o4
  go_wp2_with fail
  go_loopw [15] (fun vi wr => ∃ (r : Int) (p : Nat) (z : Int), vi = .int .i64 r ∧ R = aftL tk r (V.drop p) z ∧ (0 ≤ r → r.toNat < n) ∧ MS wr bq bp bs V p z ∧ Kept [bp, bs] w wr ∧ z ≤ 9223372036854775807) (fun vi wr => if intOf vi < 0 then 0 else V.length - placeOf wr bp + 1)
  case atStart => exact ⟨r, pos1, s1, rfl, HRA.out, HIN.out, HM1.out, HK1.out, hs1⟩
  case round =>
    clear HRA HIN HM1 HK1 hs1
    obtain ⟨r, p, z, rfl, hra, hin, hm, hk, hzb⟩ := hrel
    have HRA : Hid (R = aftL tk r (V.drop p) z) := hra
    have HM : Hid _ := hm
    have HK : Hid _ := hk
    clear hra hm hk
    by_cases hr0 : 0 ≤ r
    · obtain ⟨i, rfl⟩ : ∃ i : Nat, r = i := ⟨r.toNat, by omega⟩
      have hi : i < n := by simpa using hin hr0
      clear hin
      have hib : decide ((0 : Int) ≤ (i : Int)) = true := by simp
      obtain ⟨b, o, hao, -⟩ := (SRC.out _ HK.out).resolve_left (by omega)
      subst hao
      go_wp2_with fail
      refine (admits27_fn b o n cap X i nv rc rr _ (SRC.out _ HK.out) hi hn).mono ?_
      rintro e W2 ⟨t, rfl, ht, B2⟩
      have HM2 : Hid _ := HM.out.keep B2
      have HK2 : Hid _ := HK.out.trans (Kept.of B2)
      have htt : tk i = t := by
        have := (HTK.out i hi)
        cases t with
        | true => exact this.2 (ht.1 rfl)
        | false =>
          cases hh : tk i with
          | false => rfl
          | true => exact absurd (ht.2 (this.1 hh)) (by simp)
      have HTT : Hid _ := htt
      clear ht htt B2
      cases t with
      | true =>
        have HE : Hid (R = ((i : Int), V.drop p, z)) := by
          have h := HRA.out
          unfold aftL at h
          rw [if_neg (by omega), Int.toNat_natCast, if_pos HTT.out] at h
          exact (h : R = ((i : Int), V.drop p, z))
        go_wp2_with fail
        go_returns
        rw [HE.out]
        exact ⟨rfl, p, HM2.out, rfl, HK2.out⟩
      | false =>
        have HE : Hid (R = offL tk (V.drop p) z) := by
          have h := HRA.out
          unfold aftL at h
          rw [if_neg (by omega), Int.toNat_natCast, if_neg (by rw [HTT.out]; simp)] at h
          exact (h : R = offL tk (V.drop p) z)
        have hpo : placeOf wr bp = p := HM.out.pos
        clear HRA HM HK
        go_wp2_with fail
        refine (next26_fn bq capq bp bs V p z _ HM2.out h1 h2 h3 hl hzb).mono ?_
        rintro e W3 ⟨r, rfl, p3, z3, hnr, hm3, hk3⟩
        obtain ⟨o1, o2, o3, o4⟩ := offL_next (tk := tk) hnr HM2.out.le
        have HRA : Hid (R = aftL tk r (V.drop p3) z3) := by
          have := HE.out
          exact (by rw [this]; exact o1 : R = aftL tk r (V.drop p3) z3)
        have HIN : Hid (0 ≤ r → r.toNat < n) := by
          exact (fun hr0 => by
            obtain ⟨hq, e, _⟩ := o2 hr0
            rw [e, Int.toNat_natCast]
            exact HVM.out _ (List.getElem_mem hq) : 0 ≤ r → r.toNat < n)
        have HM3 : Hid _ := hm3
        have HK3 : Hid _ := HK2.out.trans hk3
        have HPO : Hid (placeOf W3 bp = p3) := hm3.pos
        have HO2 : Hid _ := o2
        have hz3 : z3 ≤ 9223372036854775807 := by omega
        clear HE hnr hm3 hk3 o1 o2 o3 o4 HM2 HK2
        go_wp2_with fail
        refine ⟨⟨r, p3, z3, rfl, HRA.out, HIN.out, HM3.out, HK3.out, hz3⟩, ?_⟩
        show (if r < 0 then 0 else V.length - placeOf W3 bp + 1) < (if (i : Int) < 0 then 0 else V.length - placeOf wr bp + 1)
        rw [HPO.out, hpo, if_neg (show ¬ ((i : Int) < 0) by omega)]
        by_cases hr1 : r < 0
        · rw [if_pos hr1]; omega
        · rw [if_neg hr1]
          obtain ⟨hq, _, e⟩ := HO2.out (by omega)
          omega
    · have hrb : decide (0 ≤ r) = false := by simpa using hr0
      have HE : Hid (R = (-1, V.drop p, z)) := by
        have h := HRA.out
        unfold aftL at h
        rw [if_pos (by omega)] at h
        exact (h : R = (-1, V.drop p, z))
      go_wp2_with fail
      go_returns
      rw [HE.out]
      exact ⟨rfl, p, HM.out, rfl, HK.out⟩
end Go.Proofs.Qxb6609392a
