/-
  zzModelAdmitting.
-/
import Derived.Test.Qxb6609392aModW
import Derived.Deep.Cut
import Derived.Deep.CutRange
namespace Go.Proofs.Qxb6609392a
open Go.RowKit

theorem LcbS.zero (X : Nat → Wr) (t : Int) : LcbS 0 X t (-9223372036854775808) := ⟨fun i hi => by omega, .inl rfl⟩
theorem LcbS.skip {n : Nat} {X : Nat → Wr} {t z : Int} (h : LcbS n X t z) (hs : (X n).failed = true ∨ ¬ (X n).r < t) : LcbS (n + 1) X t z := by
  refine ⟨fun i hi hf hr => ?_, ?_⟩
  · by_cases e : i = n
    · subst e
      rcases hs with q | q
      · rw [hf] at q; cases q
      · exact absurd hr q
    · exact h.1 i (by omega) hf hr
  · rcases h.2 with e | ⟨i, i1, i2, i3, i4⟩
    · exact .inl e
    · exact .inr ⟨i, by omega, i2, i3, i4⟩
theorem LcbS.take {n : Nat} {X : Nat → Wr} {t z : Int} (h : LcbS n X t z) (hf : (X n).failed = false) (hr : (X n).r < t) : LcbS (n + 1) X t (max z (X n).c) := by
  refine ⟨fun i hi hf' hr' => ?_, ?_⟩
  · by_cases e : i = n
    · subst e; omega
    · have := h.1 i (by omega) hf' hr'; omega
  · by_cases c : z ≤ (X n).c
    · exact .inr ⟨n, by omega, hf, hr, by omega⟩
    · rcases h.2 with e | ⟨i, i1, i2, i3, i4⟩
      · exact .inl (by omega)
      · exact .inr ⟨i, by omega, i2, i3, by omega⟩

def natL (l : List Nat) : List Value := l.map fun (i : Nat) => .int .i64 (i : Int)
theorem natL_len (l : List Nat) : (natL l).length = l.length := by simp [natL]
theorem natL_snoc (l : List Nat) (i : Nat) : natL (l ++ [i]) = natL l ++ [.int .i64 (i : Int)] := by simp [natL]
/-- Block bq is a row with room cap that begins with l. -/
def BQ (W : World) (bq cap : Nat) (l : List Nat) : Prop := ∃ o, W.heap[bq]? = some o ∧ AppO 3 cap (natL l) o
theorem BQ.keep {W W' : World} {bq cap : Nat} {l : List Nat} (h : BQ W bq cap l) (hB : Below W.heap.size W W') : BQ W' bq cap l := by
  obtain ⟨o, h1, h2⟩ := h
  exact ⟨o, (hB.block _ (Array.getElem?_eq_some_iff.1 h1).1).trans h1, h2⟩
theorem BQ.row {W : World} {bq cap : Nat} {l : List Nat} (h : BQ W bq cap l) : W.ownsRow 0 3 1 (.slice (some ⟨bq, 0, none⟩) l.length cap) l.length (natL l) := by
  obtain ⟨o, h1, h2⟩ := h
  have := h2.row (base := 0) h1 (Nat.zero_le _)
  rw [natL_len] at this
  exact this
theorem BQ.lt {W : World} {bq cap : Nat} {l : List Nat} (h : BQ W bq cap l) : bq < W.heap.size := by
  obtain ⟨o, h1, _⟩ := h
  exact (Array.getElem?_eq_some_iff.1 h1).1
theorem BQ.put {W : World} {bq cap : Nat} {l : List Nat} {i : Nat} (ho : W.ownsRow 0 3 1 (.slice (some ⟨bq, 0, none⟩) (l.length + 1) cap) (l.length + 1) (natL l ++ [.int .i64 (i : Int)])) : BQ W bq cap (l ++ [i]) := by
  rw [← natL_snoc] at ho
  exact (AppO.of ho).2
theorem BQ.cell {W : World} {bq cap : Nat} {l : List Nat} (h : BQ W bq cap l) (k : Nat) (hk : k < l.length) : W.cell? ⟨bq, k, none⟩ = some (.int .i64 (l[k] : Nat)) := by
  rw [h.row.cellAt k (by omega)]
  simp [natL, hk]

theorem dl_top {P : Nat → Bool} {fr t : Nat} (h : fr ≤ t) : dl P fr (t + 1) = (if P t = true then [t] else []) ++ dl P fr t := by
  show (if fr ≤ t ∧ P t = true then t :: dl P fr t else dl P fr t) = _
  cases P t <;> simp [h]

theorem idl_some {X : Nat → Wr} {fr f j : Nat} (h1 : fr ≤ j) (h2 : j < f) (h3 : (X j).idle = true) : idlM X fr f = true := by
  unfold idlM
  cases h : dl (fun i => (X i).idle) fr f with
  | cons x l => rfl
  | nil =>
    exfalso
    have key : ∀ f, j < f → j ∈ dl (fun i => (X i).idle) fr f := by
      intro f
      induction f with
      | zero => intro h; omega
      | succ f ih =>
        intro hj
        unfold dl
        by_cases e : j = f
        · subst e; rw [if_pos ⟨h1, h3⟩]; simp
        · have := ih (by omega)
          split
          · exact List.mem_cons_of_mem _ this
          · exact this
    have := key f h2
    rw [h] at this
    simp at this
theorem idl_none {X : Nat → Wr} {fr f : Nat} (h : ∀ j, fr ≤ j → j < f → (X j).idle = false) : idlM X fr f = false := by
  unfold idlM
  cases hh : dl (fun i => (X i).idle) fr f with
  | nil => rfl
  | cons x l =>
    obtain ⟨_, h1, h2, h3⟩ := dl_cons hh
    rw [h x h1 h2] at h3; cases h3

theorem offL_le {tk : Nat → Bool} : ∀ {l : List Nat} {s : Int}, (offL tk l s).2.2 ≤ max s (-1)
  | [], s => by unfold offL; split <;> (simp only; omega)
  | x :: l, s => by
    unfold offL
    split
    · simp only; omega
    · split
      · simp only; omega
      · have := offL_le (tk := tk) (l := l) (s := s - 1)
        omega
theorem MS.start {W : World} {bq cap : Nat} {V : List Nat} (h : BQ W bq cap V) (s : Int) : MS ((W.alloc (.cells #[.int .i64 0] 3)).alloc (.cells #[.int .i64 s] 3)) bq W.heap.size (W.heap.size + 1) V 0 s := by
  have hl := h.lt
  have h' := h.keep (below2 W (.cells #[.int .i64 0] 3) (.cells #[.int .i64 s] 3))
  have e1 : ((W.alloc (.cells #[.int .i64 0] 3)).alloc (.cells #[.int .i64 s] 3)).heap[W.heap.size]? = some (.cells #[.int .i64 0] 3) := ((below1 (W.alloc (.cells #[.int .i64 0] 3)) (.cells #[.int .i64 s] 3)).block W.heap.size (by simp)).trans (heap_alloc_self W _)
  have e2 : ((W.alloc (.cells #[.int .i64 0] 3)).alloc (.cells #[.int .i64 s] 3)).heap[W.heap.size + 1]? = some (.cells #[.int .i64 s] 3) := by
    have := heap_alloc_self (W.alloc (.cells #[.int .i64 0] 3)) (.cells #[.int .i64 s] 3)
    simpa using this
  exact ⟨fun k hk => h'.cell k hk, cell_of e1 rfl, cell_of e2 rfl, free_of e1, free_of e2, Nat.zero_le _⟩
theorem src_low {W : World} {ao : Option Addr} {n : Nat} {X : Nat → Wr} (h : SrcX W ao n X) {bp : Nat} (hb : W.heap.size ≤ bp) : n = 0 ∨ ∀ a, ao = some a → a.block < bp ∧ a.block < bp + 1 := by
  rcases h with e | ⟨b, o, e, hc⟩
  · exact .inl e
  · by_cases hz : n = 0
    · exact .inl hz
    · refine .inr fun a ha => ?_
      rw [e] at ha; cases ha
      have : b < W.heap.size := World.block_lt_of_cell? W ⟨b, o + 0 * 7, none⟩ (hc 0 (by omega)).1
      exact ⟨by show b < _; omega, by show b < _; omega⟩
section
variable {tk : Nat → Bool} {V : List Nat} {mrg : Bool} {idl : Nat → Bool} {s : Int} {O O2 : Int × List Nat × Int}
theorem admL_none (hO : offL tk V s = O) (h : O.1 < 0) : admL tk V mrg idl s = (0, -1, O.2.2) := by unfold admL; rw [hO, if_pos h]
theorem admL_idle (hO : offL tk V s = O) (h : ¬ O.1 < 0) (h1 : mrg = true) (h2 : O.2.1 = []) (h3 : idl O.1.toNat = true) : admL tk V mrg idl s = (2, O.1, O.2.2) := by unfold admL; rw [hO, if_neg h, if_pos ⟨⟨h1, h2⟩, h3⟩]
theorem admL_two (hO : offL tk V s = O) (h : ¬ O.1 < 0) (h1 : ¬ ((mrg = true ∧ O.2.1 = []) ∧ idl O.1.toNat = true)) (hO2 : offL tk O.2.1 O.2.2 = O2) (h2 : 0 ≤ O2.1) : admL tk V mrg idl s = (2, O.1, O2.2.2) := by unfold admL; rw [hO, if_neg h, if_neg h1, hO2, if_pos h2]
theorem admL_one (hO : offL tk V s = O) (h : ¬ O.1 < 0) (h1 : ¬ ((mrg = true ∧ O.2.1 = []) ∧ idl O.1.toNat = true)) (hO2 : offL tk O.2.1 O.2.2 = O2) (h2 : ¬ 0 ≤ O2.1) : admL tk V mrg idl s = (1, O.1, O2.2.2) := by unfold admL; rw [hO, if_neg h, if_neg h1, hO2, if_neg h2]
end

set_option maxRecDepth 100000 in
set_option maxHeartbeats 100000000 in
theorem model8_fn (ao : Option Addr) (n cap : Nat) (X : Nat → Wr) (nv steps rv rc rr : Int) (tk : Nat → Bool) (w : World) (hX : SrcX w ao n X) (hn : n ≤ 4096) (hsb : steps ≤ 9223372036854775807) (htk : ∀ i, i < n → (tk i = true ↔ TakesM n X nv rc rr i)) :
    Calls Try.prog 8 #[.slice ao n cap, .int .i64 nv, .int .i64 steps, .int .i64 rv, .int .i64 rc, .int .i64 rr] w fun e w' => ∃ (fr ca : Nat) (fd : Bool) (ov : Int), FC n X rv rr fr ca fd ∧ LcbS n X rc ov ∧
      e = .returned (.tuple #[.int .i64 (admL tk (seqM X fr ca ov rc) (mrgM X fr ca rc) (idlM X fr) steps).1, .int .i64 (admL tk (seqM X fr ca ov rc) (mrgM X fr ca rc) (idlM X fr) steps).2.1, .int .i64 (admL tk (seqM X fr ca ov rc) (mrgM X fr ca rc) (idlM X fr) steps).2.2]) ∧ Below w.heap.size w w' := by
  obtain ⟨j3, d0, d1, d2, d3⟩ := info_parts Try.info3
  have HTK : Hid _ := htk
  clear htk
  go_enter Try.func8, Try.ntmps8
  go_wp2_with fail
  go_loopw [16, 17, 18, 19] (fun vf vc vd vi wr => ∃ (i fr ca : Nat) (fd : Bool), i ≤ n ∧ vi = .int .i64 i ∧ vf = .int .i64 fr ∧ vc = .int .i64 ca ∧ vd = .bool fd ∧ FC i X rv rr fr ca fd ∧ wr = w) (fun _ _ _ vi _ => n - (intOf vi).toNat)
  case atStart => exact ⟨0, 0, 0, false, Nat.zero_le _, rfl, rfl, rfl, rfl, FC.zero X rv rr, rfl⟩
  case round => as_aux_lemma =>
    obtain ⟨i, fr, ca, fd, hin, rfl, rfl, rfl, rfl, hfc, hwr⟩ := hrel
    have hwr2 := hwr.symm
    subst hwr2
    have HFC : Hid (FC i X rv rr fr ca fd) := hfc
    clear hfc
    by_cases hi : i < n
    · obtain ⟨b, o, hao, -⟩ := hX.resolve_left (by omega)
      subst hao
      have c0 := hX.v i hi
      have c1 := hX.c i hi
      have i0 : (i : Int) < (n : Int) := by omega
      by_cases hv : (X i).v = rv
      · have hvb : ((X i).v == rv) = true := by simp [hv]
        by_cases hc : (X i).c ≤ rr
        · have hcb : decide ((X i).c ≤ rr) = true := decide_eq_true hc
          have HN : Hid _ := HFC.out.take hv hc
          clear hv
          cases fd with
          | false =>
            go_wp2_with fail
            exact ⟨⟨i + 1, i, i + 1, true, by omega, by go_num, rfl, by go_num, rfl, HN.out, trivial⟩, by simp [intOf]; omega⟩
          | true =>
            go_wp2_with fail
            exact ⟨⟨i + 1, fr, i + 1, true, by omega, by go_num, rfl, by go_num, rfl, HN.out, trivial⟩, by simp [intOf]; omega⟩
        · have hcb : decide ((X i).c ≤ rr) = false := decide_eq_false hc
          have HN : Hid _ := HFC.out.late hv (by omega)
          clear hv hc
          cases fd with
          | false =>
            go_wp2_with fail
            exact ⟨⟨i + 1, i, i, true, by omega, by go_num, rfl, rfl, rfl, HN.out, trivial⟩, by simp [intOf]; omega⟩
          | true =>
            go_wp2_with fail
            exact ⟨⟨i + 1, fr, ca, true, by omega, by go_num, rfl, rfl, rfl, HN.out, trivial⟩, by simp [intOf]; omega⟩
      · have hvb : ((X i).v == rv) = false := by rw [beq_eq_false_iff_ne]; exact hv
        have HN : Hid _ := HFC.out.other hv
        clear hv
        go_wp2_with fail
        exact ⟨⟨i + 1, fr, ca, fd, by omega, by go_num, rfl, rfl, rfl, HN.out, trivial⟩, by simp [intOf]; omega⟩
    · have en : n = i := by omega
      subst en
      clear hi
      have hle := HFC.out.le
      go_wp2_with fail
      go_loopw [20, 21] (fun vo vi wr2 => ∃ (i : Nat) (ov : Int), i ≤ n ∧ vi = .int .i64 i ∧ vo = .int .i64 ov ∧ LcbS i X rc ov ∧ wr2 = w) (fun _ vi _ => n - (intOf vi).toNat)
      case atStart => exact ⟨0, _, Nat.zero_le _, rfl, rfl, LcbS.zero X rc, rfl⟩
      case round => as_aux_lemma =>
        obtain ⟨i, ov, hin, rfl, rfl, hlc, hwr⟩ := hrel
        have hwr2 := hwr.symm
        subst hwr2
        have HLC : Hid (LcbS i X rc ov) := hlc
        clear hlc
        by_cases hi : i < n
        · obtain ⟨b, o, hao, -⟩ := hX.resolve_left (by omega)
          subst hao
          obtain ⟨s0, s1, s2, s3, s4, s5, s6⟩ := hX.all i hi
          have i0 : (i : Int) < (n : Int) := by omega
          cases hf : (X i).failed with
          | true =>
            have HN : Hid _ := HLC.out.skip (.inl hf)
            go_wp2_with fail
            exact ⟨⟨i + 1, ov, by omega, by go_num, rfl, HN.out, trivial⟩, by simp [intOf]; omega⟩
          | false =>
            by_cases hr : (X i).r < rc
            · have hrb : decide ((X i).r < rc) = true := decide_eq_true hr
              have HN : Hid _ := HLC.out.take hf hr
              go_wp2_with (go_at_call 11; refine (max64_any _ _ _).mono ?_; rintro e w' ⟨rfl, hw1⟩; have hw2 := hw1.symm; subst hw2)
              exact ⟨⟨i + 1, max ov (X i).c, by omega, by go_num, rfl, HN.out, trivial⟩, by simp [intOf]; omega⟩
            · have hrb : decide ((X i).r < rc) = false := decide_eq_false hr
              have HN : Hid _ := HLC.out.skip (.inr hr)
              go_wp2_with fail
              exact ⟨⟨i + 1, ov, by omega, by go_num, rfl, HN.out, trivial⟩, by simp [intOf]; omega⟩
        · have en : n = i := by omega
          subst en
          clear hi
          go_wp2_with (at_make; refine wpList_make_own _ rfl _ _ 39 rfl 0 3 j3 _ 1 Try.underlying39 d0 d1 d2 _ _ _ (2 * n) rfl rfl (by go_num) (by rw [d3]; omega) (by simp [maxLen]; omega) (Nat.zero_le _) ?_; intro W1 o1 g1)
          have hq0 : BQ W1 w.heap.size (2 * n) [] := (AppO.of o1).2
          have HB1 : Hid _ := below_grown g1
          clear o1 g1
          obtain ⟨bq, hbq⟩ : ∃ bq, bq = w.heap.size := ⟨_, rfl⟩
          rw [← hbq] at hq0
          have HQ0 : Hid (BQ W1 bq (2 * n) []) := hq0
          have hbl : w.heap.size ≤ bq := by omega
          rw [← hbq]
          clear hq0 hbq
          go_loopw [22, 23] (fun vq vi wr2 => ∃ (t : Nat) (l : List Nat), fr ≤ t ∧ t ≤ ca ∧ vi = .int .i64 ((t : Int) - 1) ∧ vq = .slice (some ⟨bq, 0, none⟩) l.length (2 * n) ∧ BQ wr2 bq (2 * n) l ∧ l.length + t ≤ ca ∧ l ++ dl (fun i => (X i).slot && decide (ov ≤ (X i).fr)) fr t = dl (fun i => (X i).slot && decide (ov ≤ (X i).fr)) fr ca ∧ Below w.heap.size w wr2) (fun _ vi _ => (intOf vi + 1).toNat)
          case atStart => exact ⟨ca, [], hle.1, Nat.le_refl _, rfl, rfl, HQ0.out, by simp, rfl, HB1.out⟩
          case round => as_aux_lemma =>
            clear HQ0 HB1
            obtain ⟨t, l, ht1, ht2, rfl, rfl, hq, hll, hle1, bel⟩ := hrel
            have HQ : Hid (BQ wr bq (2 * n) l) := hq
            have HE : Hid (l ++ dl (fun i => (X i).slot && decide (ov ≤ (X i).fr)) fr t = dl (fun i => (X i).slot && decide (ov ≤ (X i).fr)) fr ca) := hle1
            have HB : Hid (Below w.heap.size w wr) := bel
            clear hq hle1 bel
            by_cases ht : fr < t
            · obtain ⟨t', rfl⟩ : ∃ t', t = t' + 1 := ⟨t - 1, by omega⟩
              rw [show ((t' + 1 : Nat) : Int) - 1 = t' from by omega]
              obtain ⟨b, o, hao, -⟩ := hX.resolve_left (by omega)
              subst hao
              obtain ⟨s0, s1, s2, s3, s4, s5, s6⟩ := (hX.keep HB.out).all t' (by omega)
              have i1 : (fr : Int) ≤ (t' : Int) := by omega
              have i2 : (t' : Int) < (n : Int) := by omega
              have e0 := HE.out
              rw [dl_top (by omega)] at e0
              go_wp2_with fail
              refine (clusterOf_any (X t') _).mono ?_
              rintro e W2 ⟨rfl, B2⟩
              have HQ2 : Hid (BQ W2 bq (2 * n) l) := HQ.out.keep B2
              have HB2 : Hid _ := HB.out.trans (B2.mono HB.out.size)
              clear B2 HQ HB HE s0 s1 s2 s3 s4 s5 s6
              cases hsl : (X t').slot with
              | false =>
                have HN : Hid (l ++ dl (fun i => (X i).slot && decide (ov ≤ (X i).fr)) fr t' = dl (fun i => (X i).slot && decide (ov ≤ (X i).fr)) fr ca) := by
                  exact (by simpa [hsl] using e0 : l ++ dl (fun i => (X i).slot && decide (ov ≤ (X i).fr)) fr t' = dl (fun i => (X i).slot && decide (ov ≤ (X i).fr)) fr ca)
                clear e0
                go_wp2_with fail
                exact ⟨⟨t', l, by omega, by omega, by go_num, rfl, HQ2.out, by omega, HN.out, HB2.out⟩, by simp only [intOf]; omega⟩
              | true =>
                by_cases hov : ov ≤ (X t').fr
                · have hovb : decide (ov ≤ (X t').fr) = true := decide_eq_true hov
                  have HN : Hid ((l ++ [t']) ++ dl (fun i => (X i).slot && decide (ov ≤ (X i).fr)) fr t' = dl (fun i => (X i).slot && decide (ov ≤ (X i).fr)) fr ca) := by
                    exact (by simpa [hsl, hov] using e0 : (l ++ [t']) ++ dl (fun i => (X i).slot && decide (ov ≤ (X i).fr)) fr t' = dl (fun i => (X i).slot && decide (ov ≤ (X i).fr)) fr ca)
                  clear e0 hov
                  go_wp2_with (at_builtin; refine wpList_append_fits _ rfl _ _ 39 rfl 0 3 j3 1 Try.underlying39 d0 d2 bq _ (2 * n) (natL l) rfl (HQ2.out.keep (below1 _ _)).row ⟨_, 0, none⟩ 1 1 [.int .i64 (t' : Int)] rfl rfl (one_cell _ _ _) (one_one _) (by omega) ?_; intro W5 o5 g5)
                  have kq := (HB2.out.trans ((below1 _ _).mono HB2.out.size)).trans ((Kept.ofGrown g5).below (Nat.le_trans HB2.out.size (below1 _ _).size) (fun x hx => by simp at hx; omega))
                  exact ⟨⟨t', l ++ [t'], by omega, by omega, by go_num, by simp, BQ.put o5, by simp; omega, HN.out, kq⟩, by simp only [intOf]; omega⟩
                · have hovb : decide (ov ≤ (X t').fr) = false := decide_eq_false hov
                  have HN : Hid (l ++ dl (fun i => (X i).slot && decide (ov ≤ (X i).fr)) fr t' = dl (fun i => (X i).slot && decide (ov ≤ (X i).fr)) fr ca) := by
                    exact (by simpa [hsl, hov] using e0 : l ++ dl (fun i => (X i).slot && decide (ov ≤ (X i).fr)) fr t' = dl (fun i => (X i).slot && decide (ov ≤ (X i).fr)) fr ca)
                  clear e0 hov
                  go_wp2_with fail
                  exact ⟨⟨t', l, by omega, by omega, by go_num, rfl, HQ2.out, by omega, HN.out, HB2.out⟩, by simp only [intOf]; omega⟩
            · have et : fr = t := by omega
              have HS1 : Hid (l = dl (fun i => (X i).slot && decide (ov ≤ (X i).fr)) fr ca) := by
                have h0 := HE.out
                rw [dl_low (by omega), List.append_nil] at h0
                exact (h0 : l = dl (fun i => (X i).slot && decide (ov ≤ (X i).fr)) fr ca)
              have hfb : decide ((fr : Int) ≤ (t : Int) - 1) = false := by simp; omega
              have hl1 : l.length ≤ n := by omega
              clear HE hll et
              go_wp2_with fail
              clear hfb
              go_loopw [22, 27, 28] (fun vq vm vi wr2 => ∃ (t : Nat) (V pre : List Nat), fr ≤ t ∧ t ≤ ca ∧ vi = .int .i64 ((t : Int) - 1) ∧ vm = .int .i64 (-1) ∧ vq = .slice (some ⟨bq, 0, none⟩) V.length (2 * n) ∧ BQ wr2 bq (2 * n) V ∧ V = l ++ pre ∧ pre.length + t ≤ ca ∧ pre ++ cutQ (fun i => decide ((X i).c ≤ rc)) (dl (fun i => (X i).idle) fr t) = cutQ (fun i => decide ((X i).c ≤ rc)) (dl (fun i => (X i).idle) fr ca) ∧ (dl (fun i => (X i).idle) fr t).any (fun i => decide ((X i).c ≤ rc)) = mrgM X fr ca rc ∧ Below w.heap.size w wr2) (fun _ _ vi _ => (intOf vi + 1).toNat)
              case atStart => exact ⟨ca, l, [], hle.1, Nat.le_refl _, rfl, rfl, rfl, HQ.out, by simp, by simp, rfl, rfl, HB.out⟩
              case round => as_aux_lemma =>
                clear HQ HB
                obtain ⟨t, V, pre, ht1, ht2, rfl, rfl, rfl, hq, hVe, hll, hle1, hany, bel⟩ := hrel
                have HQ : Hid (BQ wr bq (2 * n) V) := hq
                have HE : Hid (pre ++ cutQ (fun i => decide ((X i).c ≤ rc)) (dl (fun i => (X i).idle) fr t) = cutQ (fun i => decide ((X i).c ≤ rc)) (dl (fun i => (X i).idle) fr ca)) := hle1
                have HY : Hid ((dl (fun i => (X i).idle) fr t).any (fun i => decide ((X i).c ≤ rc)) = mrgM X fr ca rc) := hany
                have HVE : Hid (V = l ++ pre) := hVe
                have HB : Hid (Below w.heap.size w wr) := bel
                have hvl : V.length = l.length + pre.length := by rw [hVe]; simp
                clear hq hle1 bel hany hVe
                by_cases ht : fr < t
                · obtain ⟨t', rfl⟩ : ∃ t', t = t' + 1 := ⟨t - 1, by omega⟩
                  rw [show ((t' + 1 : Nat) : Int) - 1 = t' from by omega]
                  obtain ⟨b, o, hao, -⟩ := hX.resolve_left (by omega)
                  subst hao
                  obtain ⟨s0, s1, s2, s3, s4, s5, s6⟩ := (hX.keep HB.out).all t' (by omega)
                  have i1 : (fr : Int) ≤ (t' : Int) := by omega
                  have i2 : (t' : Int) < (n : Int) := by omega
                  have e0 := HE.out
                  have y0 := HY.out
                  rw [dl_top (by omega)] at e0 y0
                  have hvl2 : V.length + 1 ≤ 2 * n := by omega
                  clear hvl
                  go_wp2_with fail
                  refine (idle_any (X t') _).mono ?_
                  rintro e W2 ⟨rfl, B2⟩
                  have HQ2 : Hid (BQ W2 bq (2 * n) V) := HQ.out.keep B2
                  have HB2 : Hid _ := HB.out.trans (B2.mono HB.out.size)
                  clear B2 HQ HB HE HY s0 s1 s2 s3 s4 s5 s6
                  cases hid : (X t').idle with
                  | false =>
                    have HN : Hid (pre ++ cutQ (fun i => decide ((X i).c ≤ rc)) (dl (fun i => (X i).idle) fr t') = cutQ (fun i => decide ((X i).c ≤ rc)) (dl (fun i => (X i).idle) fr ca)) := by
                      exact (by simpa [hid] using e0 : pre ++ cutQ (fun i => decide ((X i).c ≤ rc)) (dl (fun i => (X i).idle) fr t') = cutQ (fun i => decide ((X i).c ≤ rc)) (dl (fun i => (X i).idle) fr ca))
                    have HN2 : Hid ((dl (fun i => (X i).idle) fr t').any (fun i => decide ((X i).c ≤ rc)) = mrgM X fr ca rc) := by
                      exact (by simpa [hid] using y0 : (dl (fun i => (X i).idle) fr t').any (fun i => decide ((X i).c ≤ rc)) = mrgM X fr ca rc)
                    clear e0 y0
                    go_wp2_with fail
                    exact ⟨⟨t', V, pre, by omega, by omega, by go_num, rfl, rfl, HQ2.out, HVE.out, by omega, HN.out, HN2.out, HB2.out⟩, by simp only [intOf]; omega⟩
                  | true =>
                    rw [hid, if_pos rfl] at e0 y0
                    change pre ++ cutQ (fun i => decide ((X i).c ≤ rc)) (t' :: dl (fun i => (X i).idle) fr t') = _ at e0
                    change (t' :: dl (fun i => (X i).idle) fr t').any (fun i => decide ((X i).c ≤ rc)) = _ at y0
                    by_cases hcq : (X t').c ≤ rc
                    · have hcb : decide ((X t').c ≤ rc) = true := decide_eq_true hcq
                      have HSEQ : Hid (seqM X fr ca ov rc = V ++ [t']) := by
                        have h0 : cutQ (fun i => decide ((X i).c ≤ rc)) (dl (fun i => (X i).idle) fr ca) = pre ++ [t'] := by
                          rw [← e0]
                          simp [cutQ, hcq]
                        exact (by unfold seqM; rw [h0, ← HS1.out, HVE.out, List.append_assoc] : seqM X fr ca ov rc = V ++ [t'])
                      have HMRG : Hid (mrgM X fr ca rc = true) := by
                        exact (by rw [← y0]; simp [hcq] : mrgM X fr ca rc = true)
                      clear e0 y0 hcq
                      go_upto_region 34 with (at_builtin; refine wpList_append_fits _ rfl _ _ 39 rfl 0 3 j3 1 Try.underlying39 d0 d2 bq _ (2 * n) (natL V) rfl (HQ2.out.keep (below1 _ _)).row ⟨_, 0, none⟩ 1 1 [.int .i64 (t' : Int)] rfl rfl (one_cell _ _ _) (one_one _) (by omega) ?_; intro W5 o5 g5)
                      have HB5 : Hid _ := (HB2.out.trans ((below1 _ _).mono HB2.out.size)).trans ((Kept.ofGrown g5).below (Nat.le_trans HB2.out.size (below1 _ _).size) (fun x hx => by simp at hx; omega))
                      have HQ5 : Hid (BQ W5 bq (2 * n) (V ++ [t'])) := BQ.put o5
                      clear o5 g5 HQ2 HB2
                      have s1 := (hX.keep HB5.out).c t' (by omega)
                      obtain ⟨Z, hZ⟩ : ∃ Z, Z = V ++ [t'] := ⟨_, rfl⟩
                      have hzlen : Z.length = V.length + 1 := by rw [hZ]; simp
                      have HQZ : Hid (BQ W5 bq (2 * n) Z) := by
                        have h0 := HQ5.out
                        rw [← hZ] at h0
                        exact (h0 : BQ W5 bq (2 * n) Z)
                      have HSZ := HSEQ.out
                      rw [← hZ] at HSZ
                      clear HSEQ
                      have HSEQ : Hid (seqM X fr ca ov rc = Z) := HSZ
                      have HZM : Hid (∀ i ∈ Z, i < n) := by
                        exact (fun i hi => by
                          rw [← HSEQ.out] at hi
                          unfold seqM at hi
                          rcases List.mem_append.1 hi with h | h
                          · have := (dl_mem h).2.1; omega
                          · have := (dl_mem (cutQ_mem h)).2.1; omega : ∀ i ∈ Z, i < n)
                      have hzl : Z.length ≤ 8192 := by omega
                      have HZL : Hid _ := hzlen
                      clear hzlen
                      have HM0 : Hid _ := MS.start HQZ.out steps
                      have HB0 : Hid _ := HB5.out.trans ((below2 W5 (.cells #[.int .i64 0] 3) (.cells #[.int .i64 steps] 3)).mono HB5.out.size)
                      have hqlt := HQZ.out.lt
                      have QNE : Hid (bq ≠ W5.heap.size + 1 ∧ W5.heap.size ≠ W5.heap.size + 1 ∧ bq ≠ W5.heap.size) := ⟨by omega, by omega, by omega⟩
                      have HBP : Hid (w.heap.size ≤ W5.heap.size) := HB5.out.size
                      have hX0 := hX
                      have H4 : Hid _ := src_low hX0 HBP.out
                      clear hX0 HSZ HQ5 HQZ HB5 hZ hqlt
                      go_wp2_with fail
                      rw [← HZL.out]
                      refine (offer24_fn _ n cap bq (2 * n) _ _ X Z 0 steps nv rc rr tk _ (hX.keep HB0.out) hn HM0.out QNE.out.1 QNE.out.2.1 QNE.out.2.2 H4.out hzl hsb HZM.out HTK.out).mono ?_
                      rintro e W3 ⟨rfl, pos1, hm1, hd1, hk1⟩
                      rw [List.drop_zero] at hm1 hd1 ⊢
                      have HB3 : Hid (Below w.heap.size w W3) := HB0.out.trans (hk1.below HB0.out.size (fun x hx => by simp at hx; have := HBP.out; omega))
                      have OLE : Hid _ := offL_le (tk := tk) (l := Z) (s := steps)
                      generalize hO : offL tk Z steps = O at *
                      have HO : Hid _ := hO
                      have HM1 : Hid _ := hm1
                      have HD1 : Hid _ := hd1
                      have SRC3 : Hid _ := hX.keep HB3.out
                      have c8 := hm1.s
                      have c7 := hm1.p
                      have hpl := hm1.le
                      clear hO hm1 hk1 HM0 HB0
                      by_cases ho : O.1 < 0
                      · have hob : decide (O.1 < 0) = true := decide_eq_true ho
                        have HA : Hid _ := admL_none (mrg := mrgM X fr ca rc) (idl := idlM X fr) HO.out ho
                        clear ho
                        go_wp2_with fail
                        go_quiet (fail)
                        go_wp2_with fail
                        go_returns
                        exact ⟨fr, ca, fd, ov, HFC.out, HLC.out, by rw [HSEQ.out, HA.out]; rfl, belowN HB3.out _⟩
                      · have hob : decide (O.1 < 0) = false := decide_eq_false ho
                        have HHO : Hid (¬ O.1 < 0) := ho
                        by_cases hl0 : O.2.1 = []
                        · have hp1 : pos1 = V.length + 1 := by
                            rw [hl0] at hd1
                            have := List.drop_eq_nil_iff.1 hd1
                            have := HZL.out
                            omega
                          have hpb : decide ((V.length : Int) < (pos1 : Int)) = true := by simp; omega
                          have hvb : decide ((0 : Int) ≤ (V.length : Int)) = true := by simp
                          have hp2 : V.length < pos1 := by omega
                          clear hd1 hp1
                          have HL0 : Hid (O.2.1 = []) := hl0
                          clear hl0
                          go_wp2_with fail
                          obtain ⟨f, hf⟩ : ∃ f : Nat, O.1 = f := ⟨O.1.toNat, by have := HHO.out; omega⟩
                          have HF : Hid (O.1 = (f : Int)) := hf
                          have hfn : f < n := by
                            have h0 := offL_in (tk := tk) (l := Z) (s := steps) (by rw [HO.out]; omega)
                            rw [HO.out, hf, Int.toNat_natCast] at h0
                            exact HZM.out f h0
                          rw [hf]
                          clear hf hob hpb hvb ho hp2
                          go_loopw [32] (fun vj wr2 => ∃ j : Nat, vj = .int .i64 j ∧ fr ≤ j ∧ (∀ x, fr ≤ x → x < j → (X x).idle = false) ∧ MS wr2 bq W5.heap.size (W5.heap.size + 1) Z pos1 O.2.2 ∧ Below w.heap.size w wr2) (fun vj _ => n - (intOf vj).toNat)
                          case atStart => exact ⟨fr, rfl, Nat.le_refl _, fun x h1 h2 => by omega, HM1.out, HB3.out⟩
                          case round => as_aux_lemma =>
                            clear HM1 HB3 SRC3 c8 c7
                            obtain ⟨j, rfl, hj1, hidl, hm, bel⟩ := hrel
                            have HIDL : Hid (∀ x, fr ≤ x → x < j → (X x).idle = false) := hidl
                            have HM1 : Hid _ := hm
                            have HB3 : Hid (Below w.heap.size w wr) := bel
                            clear hidl hm bel
                            by_cases hj : j < f
                            · obtain ⟨s0, s1, s2, s3, s4, s5, s6⟩ := (hX.keep HB3.out).all j (by omega)
                              have i3 : (j : Int) < (n : Int) := by omega
                              go_wp2_with fail
                              refine (idle_any (X j) _).mono ?_
                              rintro e W6 ⟨rfl, B6⟩
                              have HM6 : Hid _ := HM1.out.keep B6
                              have HB6 : Hid (Below w.heap.size w W6) := HB3.out.trans (B6.mono HB3.out.size)
                              have c9 := HM6.out.s
                              clear B6 HM1 HB3 s0 s1 s2 s3 s4 s5 s6
                              cases hid : (X j).idle with
                              | true =>
                                have HA : Hid (admL tk Z (mrgM X fr ca rc) (idlM X fr) steps = (2, (f : Int), O.2.2)) := (admL_idle HO.out (by have := HHO.out; omega) HMRG.out HL0.out (by rw [HF.out, Int.toNat_natCast]; exact idl_some hj1 hj hid)).trans (by rw [HF.out])
                                go_wp2_with fail
                                go_quiet (fail)
                                go_wp2_with fail
                                go_returns
                                exact ⟨fr, ca, fd, ov, HFC.out, HLC.out, by rw [HSEQ.out, HA.out]; rfl, belowN HB6.out _⟩
                              | false =>
                                go_wp2_with fail
                                exact ⟨⟨j + 1, by go_num, by omega, fun x h1 h2 => by
                                  by_cases e : x = j
                                  · subst e; exact hid
                                  · exact HIDL.out x h1 (by omega), HM6.out, HB6.out⟩, by simp [intOf]; omega⟩
                            · have SRC3 : Hid _ := hX.keep HB3.out
                              have HIDN : Hid (idlM X fr f = false) := idl_none (fun x h1 h2 => HIDL.out x h1 (by omega))
                              go_wp2_with fail
                              refine (offer24_fn _ n cap bq (2 * n) _ _ X Z pos1 O.2.2 nv rc rr tk _ SRC3.out hn HM1.out QNE.out.1 QNE.out.2.1 QNE.out.2.2 H4.out hzl (by have := OLE.out; omega) HZM.out HTK.out).mono ?_
                              rintro e W4 ⟨rfl, pos2, hm2, -, hk2⟩
                              rw [HD1.out] at hm2 ⊢
                              have HB4 : Hid (Below w.heap.size w W4) := HB3.out.trans (hk2.below HB3.out.size (fun x hx => by simp at hx; have := HBP.out; omega))
                              clear hk2
                              generalize hO2 : offL tk O.2.1 O.2.2 = O2 at *
                              have HO2 : Hid _ := hO2
                              clear hO2
                              have c9 := hm2.s
                              have HNI : Hid (¬ ((mrgM X fr ca rc = true ∧ O.2.1 = []) ∧ idlM X fr O.1.toNat = true)) := fun h => by have h0 := h.2; rw [HF.out, Int.toNat_natCast, HIDN.out] at h0; cases h0
                              clear hm2
                              by_cases h2 : 0 ≤ O2.1
                              · have h2b : decide (0 ≤ O2.1) = true := decide_eq_true h2
                                have HA : Hid (admL tk Z (mrgM X fr ca rc) (idlM X fr) steps = (2, (f : Int), O2.2.2)) := (admL_two HO.out (by have := HHO.out; omega) HNI.out HO2.out h2).trans (by rw [HF.out])
                                clear h2
                                go_wp2_with fail
                                go_quiet (fail)
                                go_wp2_with fail
                                go_returns
                                exact ⟨fr, ca, fd, ov, HFC.out, HLC.out, by rw [HSEQ.out, HA.out]; rfl, belowN HB4.out _⟩
                              · have h2b : decide (0 ≤ O2.1) = false := decide_eq_false h2
                                have HA : Hid (admL tk Z (mrgM X fr ca rc) (idlM X fr) steps = (1, (f : Int), O2.2.2)) := (admL_one HO.out (by have := HHO.out; omega) HNI.out HO2.out h2).trans (by rw [HF.out])
                                clear h2
                                go_wp2_with fail
                                go_quiet (fail)
                                go_wp2_with fail
                                go_returns
                                exact ⟨fr, ca, fd, ov, HFC.out, HLC.out, by rw [HSEQ.out, HA.out]; rfl, belowN HB4.out _⟩
                        · have hp1 : pos1 ≤ V.length := by
                            by_cases c : pos1 = Z.length
                            · rw [c, List.drop_length] at hd1
                              exact absurd hd1.symm hl0
                            · have := HZL.out
                              omega
                          have hpb : decide ((V.length : Int) < (pos1 : Int)) = false := by simp; omega
                          have HL0 : Hid _ := hl0
                          clear hl0 hd1
                          go_wp2_with fail
                          refine (offer24_fn _ n cap bq (2 * n) _ _ X Z pos1 O.2.2 nv rc rr tk _ SRC3.out hn HM1.out QNE.out.1 QNE.out.2.1 QNE.out.2.2 H4.out hzl (by have := OLE.out; omega) HZM.out HTK.out).mono ?_
                          rintro e W4 ⟨rfl, pos2, hm2, -, hk2⟩
                          rw [HD1.out] at hm2 ⊢
                          have HB4 : Hid (Below w.heap.size w W4) := HB3.out.trans (hk2.below HB3.out.size (fun x hx => by simp at hx; have := HBP.out; omega))
                          clear hk2
                          generalize hO2 : offL tk O.2.1 O.2.2 = O2 at *
                          have HO2 : Hid _ := hO2
                          clear hO2
                          have c9 := hm2.s
                          have HNI : Hid (¬ ((mrgM X fr ca rc = true ∧ O.2.1 = []) ∧ idlM X fr O.1.toNat = true)) := fun h => HL0.out h.1.2
                          clear hm2
                          by_cases h2 : 0 ≤ O2.1
                          · have h2b : decide (0 ≤ O2.1) = true := decide_eq_true h2
                            have HA : Hid (admL tk Z (mrgM X fr ca rc) (idlM X fr) steps = (2, O.1, O2.2.2)) := (admL_two HO.out (by have := HHO.out; omega) HNI.out HO2.out h2).trans (by rw [show O.1 = O.1 from rfl])
                            clear h2
                            go_wp2_with fail
                            go_quiet (fail)
                            go_wp2_with fail
                            go_returns
                            exact ⟨fr, ca, fd, ov, HFC.out, HLC.out, by rw [HSEQ.out, HA.out]; rfl, belowN HB4.out _⟩
                          · have h2b : decide (0 ≤ O2.1) = false := decide_eq_false h2
                            have HA : Hid (admL tk Z (mrgM X fr ca rc) (idlM X fr) steps = (1, O.1, O2.2.2)) := (admL_one HO.out (by have := HHO.out; omega) HNI.out HO2.out h2).trans (by rw [show O.1 = O.1 from rfl])
                            clear h2
                            go_wp2_with fail
                            go_quiet (fail)
                            go_wp2_with fail
                            go_returns
                            exact ⟨fr, ca, fd, ov, HFC.out, HLC.out, by rw [HSEQ.out, HA.out]; rfl, belowN HB4.out _⟩
                    · have hcb : decide ((X t').c ≤ rc) = false := decide_eq_false hcq
                      have HN : Hid ((pre ++ [t']) ++ cutQ (fun i => decide ((X i).c ≤ rc)) (dl (fun i => (X i).idle) fr t') = cutQ (fun i => decide ((X i).c ≤ rc)) (dl (fun i => (X i).idle) fr ca)) := by
                        exact (by rw [← e0]; simp [cutQ, hcq] : (pre ++ [t']) ++ cutQ (fun i => decide ((X i).c ≤ rc)) (dl (fun i => (X i).idle) fr t') = cutQ (fun i => decide ((X i).c ≤ rc)) (dl (fun i => (X i).idle) fr ca))
                      have HN2 : Hid ((dl (fun i => (X i).idle) fr t').any (fun i => decide ((X i).c ≤ rc)) = mrgM X fr ca rc) := by
                        exact (by rw [← y0]; simp [hcq] : (dl (fun i => (X i).idle) fr t').any (fun i => decide ((X i).c ≤ rc)) = mrgM X fr ca rc)
                      clear e0 y0 hcq
                      go_upto_region 34 with (at_builtin; refine wpList_append_fits _ rfl _ _ 39 rfl 0 3 j3 1 Try.underlying39 d0 d2 bq _ (2 * n) (natL V) rfl (HQ2.out.keep (below1 _ _)).row ⟨_, 0, none⟩ 1 1 [.int .i64 (t' : Int)] rfl rfl (one_cell _ _ _) (one_one _) (by omega) ?_; intro W5 o5 g5)
                      have HB5 : Hid _ := (HB2.out.trans ((below1 _ _).mono HB2.out.size)).trans ((Kept.ofGrown g5).below (Nat.le_trans HB2.out.size (below1 _ _).size) (fun x hx => by simp at hx; omega))
                      have HQ5 : Hid (BQ W5 bq (2 * n) (V ++ [t'])) := BQ.put o5
                      clear o5 g5 HQ2 HB2
                      have s1 := (hX.keep HB5.out).c t' (by omega)
                      go_wp2_with fail
                      exact ⟨⟨t', V ++ [t'], pre ++ [t'], by omega, by omega, by go_num, rfl, by simp, HQ5.out, by rw [HVE.out, List.append_assoc], by simp; omega, HN.out, HN2.out, HB5.out⟩, by simp only [intOf]; omega⟩
                · have et2 : fr = t := by omega
                  have HSEQ : Hid (seqM X fr ca ov rc = V) := by
                    have h0 := HE.out
                    rw [dl_low (by omega)] at h0
                    change pre ++ [] = _ at h0
                    rw [List.append_nil] at h0
                    exact (by unfold seqM; rw [← h0, ← HS1.out, HVE.out] : seqM X fr ca ov rc = V)
                  have HMRG : Hid (mrgM X fr ca rc = false) := by
                    have h0 := HY.out
                    rw [dl_low (by omega)] at h0
                    exact (h0.symm : mrgM X fr ca rc = false)
                  have hfb2 : decide ((fr : Int) ≤ (t : Int) - 1) = false := by simp; omega
                  have hvl2 : V.length ≤ 2 * n := by omega
                  clear HE HY hvl et2
                  obtain ⟨Z, hZ⟩ : ∃ Z, Z = V := ⟨_, rfl⟩
                  have hzlen : Z.length = V.length := by rw [hZ]
                  have HQZ : Hid (BQ wr bq (2 * n) Z) := by
                    have h0 := HQ.out
                    rw [← hZ] at h0
                    exact (h0 : BQ wr bq (2 * n) Z)
                  have HSZ := HSEQ.out
                  rw [← hZ] at HSZ
                  clear HSEQ
                  have HSEQ : Hid (seqM X fr ca ov rc = Z) := HSZ
                  have HZM : Hid (∀ i ∈ Z, i < n) := by
                    exact (fun i hi => by
                      rw [← HSEQ.out] at hi
                      unfold seqM at hi
                      rcases List.mem_append.1 hi with h | h
                      · have := (dl_mem h).2.1; omega
                      · have := (dl_mem (cutQ_mem h)).2.1; omega : ∀ i ∈ Z, i < n)
                  have hzl : Z.length ≤ 8192 := by omega
                  have HZL : Hid _ := hzlen
                  clear hzlen
                  have HM0 : Hid _ := MS.start HQZ.out steps
                  have HB0 : Hid _ := HB.out.trans ((below2 wr (.cells #[.int .i64 0] 3) (.cells #[.int .i64 steps] 3)).mono HB.out.size)
                  have hqlt := HQZ.out.lt
                  have QNE : Hid (bq ≠ wr.heap.size + 1 ∧ wr.heap.size ≠ wr.heap.size + 1 ∧ bq ≠ wr.heap.size) := ⟨by omega, by omega, by omega⟩
                  have HBP : Hid (w.heap.size ≤ wr.heap.size) := HB.out.size
                  have hX0 := hX
                  have H4 : Hid _ := src_low hX0 HBP.out
                  clear hX0 HSZ HQ HQZ HB hZ hqlt
                  go_wp2_with fail
                  rw [← HZL.out]
                  refine (offer24_fn _ n cap bq (2 * n) _ _ X Z 0 steps nv rc rr tk _ (hX.keep HB0.out) hn HM0.out QNE.out.1 QNE.out.2.1 QNE.out.2.2 H4.out hzl hsb HZM.out HTK.out).mono ?_
                  rintro e W3 ⟨rfl, pos1, hm1, hd1, hk1⟩
                  rw [List.drop_zero] at hm1 hd1 ⊢
                  have HB3 : Hid (Below w.heap.size w W3) := HB0.out.trans (hk1.below HB0.out.size (fun x hx => by simp at hx; have := HBP.out; omega))
                  have OLE : Hid _ := offL_le (tk := tk) (l := Z) (s := steps)
                  generalize hO : offL tk Z steps = O at *
                  have HO : Hid _ := hO
                  have HM1 : Hid _ := hm1
                  have HD1 : Hid _ := hd1
                  have SRC3 : Hid _ := hX.keep HB3.out
                  have c8 := hm1.s
                  have c7 := hm1.p
                  have hpl := hm1.le
                  clear hO hm1 hk1 HM0 HB0
                  by_cases ho : O.1 < 0
                  · have hob : decide (O.1 < 0) = true := decide_eq_true ho
                    have HA : Hid _ := admL_none (mrg := mrgM X fr ca rc) (idl := idlM X fr) HO.out ho
                    clear ho
                    go_wp2_with fail
                    go_quiet (fail)
                    go_wp2_with fail
                    go_returns
                    exact ⟨fr, ca, fd, ov, HFC.out, HLC.out, by rw [HSEQ.out, HA.out]; rfl, belowN HB3.out _⟩
                  · have hob : decide (O.1 < 0) = false := decide_eq_false ho
                    have HHO : Hid (¬ O.1 < 0) := ho
                    clear hd1
                    go_wp2_with fail
                    refine (offer24_fn _ n cap bq (2 * n) _ _ X Z pos1 O.2.2 nv rc rr tk _ SRC3.out hn HM1.out QNE.out.1 QNE.out.2.1 QNE.out.2.2 H4.out hzl (by have := OLE.out; omega) HZM.out HTK.out).mono ?_
                    rintro e W4 ⟨rfl, pos2, hm2, -, hk2⟩
                    rw [HD1.out] at hm2 ⊢
                    have HB4 : Hid (Below w.heap.size w W4) := HB3.out.trans (hk2.below HB3.out.size (fun x hx => by simp at hx; have := HBP.out; omega))
                    clear hk2
                    generalize hO2 : offL tk O.2.1 O.2.2 = O2 at *
                    have HO2 : Hid _ := hO2
                    clear hO2
                    have c9 := hm2.s
                    have HNI : Hid (¬ ((mrgM X fr ca rc = true ∧ O.2.1 = []) ∧ idlM X fr O.1.toNat = true)) := fun h => by rw [HMRG.out] at h; cases h.1.1
                    clear hm2
                    by_cases h2 : 0 ≤ O2.1
                    · have h2b : decide (0 ≤ O2.1) = true := decide_eq_true h2
                      have HA : Hid (admL tk Z (mrgM X fr ca rc) (idlM X fr) steps = (2, O.1, O2.2.2)) := (admL_two HO.out (by have := HHO.out; omega) HNI.out HO2.out h2).trans (by rw [show O.1 = O.1 from rfl])
                      clear h2
                      go_wp2_with fail
                      go_quiet (fail)
                      go_wp2_with fail
                      go_returns
                      exact ⟨fr, ca, fd, ov, HFC.out, HLC.out, by rw [HSEQ.out, HA.out]; rfl, belowN HB4.out _⟩
                    · have h2b : decide (0 ≤ O2.1) = false := decide_eq_false h2
                      have HA : Hid (admL tk Z (mrgM X fr ca rc) (idlM X fr) steps = (1, O.1, O2.2.2)) := (admL_one HO.out (by have := HHO.out; omega) HNI.out HO2.out h2).trans (by rw [show O.1 = O.1 from rfl])
                      clear h2
                      go_wp2_with fail
                      go_quiet (fail)
                      go_wp2_with fail
                      go_returns
                      exact ⟨fr, ca, fd, ov, HFC.out, HLC.out, by rw [HSEQ.out, HA.out]; rfl, belowN HB4.out _⟩
end Go.Proofs.Qxb6609392a
