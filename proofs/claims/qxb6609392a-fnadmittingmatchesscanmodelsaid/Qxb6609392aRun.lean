/-
  zzRunAdmitting.
-/
import Derived.Test.Qxb6609392aRunC
import Derived.Carry
import Derived.Deep.Cut
import Derived.Deep.CutRange
import Derived.Deep.DeepCutAuto
namespace Go.Proofs.Qxb6609392a
open Go.RowKit

set_option maxRecDepth 100000 in
set_option maxHeartbeats 200000000 in
theorem run_fn (ao ae : Option Addr) (n m cap cape : Nat) (X : Nat → Wr) (E : Nat → Int) (nv steps rv rc rr sl : Int) (w : World) (hX : SrcX w ao n X) (hE : SrcI w ae m E) (hn : n ≤ 4096) (hm : m ≤ 4096) (hwf : ∀ i, i < n → (Lit.int .i64 (X i).v).wf = true) (hsrt : ∀ a b, a ≤ b → b < n → (X a).v ≤ (X b).v) (hmc : ∀ a b, a ≤ b → b < n → (X a).v = (X b).v → (X a).c ≤ (X b).c) (hwv : (Lit.int .i64 rv).wf = true) (hsb : steps ≤ 9223372036854775807) :
    Calls Try.prog 7 #[.slice ao n cap, .slice ae m cape, .int .i64 nv, .int .i64 steps, .int .i64 rv, .int .i64 rc, .int .i64 rr, .int .i64 sl] w fun e w' => ∃ (D : AD) (T : Int → Nat × Nat), D.n = n ∧ D.nv = nv ∧ Lay D X ∧ D.Ok ∧ Spans n X n T ∧ (∀ t, LcbS n X t (lcb D.OR D.OL t D.d)) ∧
      e = .returned (.tuple #[.int .i64 (admitF D rc rr (choicesF D T rv rc rr) steps).1, .int .i64 (admitF D rc rr (choicesF D T rv rc rr) steps).2.1, .int .i64 (admitF D rc rr (choicesF D T rv rc rr) steps).2.2]) ∧ Below w.heap.size w w' := by
  obtain ⟨j0, a0, a1, a2, a3⟩ := info_parts Try.info42
  obtain ⟨j1, b0, b1, b2, b3⟩ := info_parts Try.info47
  obtain ⟨j2, c0, c1, c2, c3⟩ := info_parts Try.info2
  obtain ⟨j3, d0, d1, d2, d3⟩ := info_parts Try.info3
  have hmm := @run_makeMap Try.prog
  go_enter Try.func7, Try.ntmps7
  go_wp2_with (first
    | (at_make; refine wpList_make_full _ rfl _ _ 37 rfl 0 42 j0 _ 5 Try.underlying37 a0 a1 a2 _ _ _ _ n rfl rfl rfl rfl (by rw [a3]; omega) (by simp [maxLen]; omega) (Nat.zero_le _) ?_; intro w1 o1 g1)
    | (at_make; refine wpList_make_full _ rfl _ _ 38 rfl 0 47 j1 _ 3 Try.underlying38 b0 b1 b2 _ _ _ _ n rfl rfl rfl rfl (by rw [b3]; omega) (by simp [maxLen]; omega) (Nat.zero_le _) ?_; intro w2 o2 g2)
    | (at_make; refine wpList_make_full _ rfl _ _ 23 rfl 0 2 j2 _ 1 Try.underlying23 c0 c1 c2 _ _ _ _ n rfl rfl rfl rfl (by rw [c3]; omega) (by simp [maxLen]; omega) (Nat.zero_le _) ?_; intro w3 o3 g3)
    | (at_make; refine wpList_make_full _ rfl _ _ 39 rfl 0 3 j3 _ 1 Try.underlying39 d0 d1 d2 _ _ _ _ n rfl rfl rfl rfl (by rw [d3]; omega) (by simp [maxLen]; omega) (Nat.zero_le _) ?_; intro w4 o4 g4)
    | (at_make; refine wpList_make_full _ rfl _ _ 23 rfl 0 2 j2 _ 1 Try.underlying23 c0 c1 c2 _ _ _ _ n rfl rfl rfl rfl (by rw [c3]; omega) (by simp [maxLen]; omega) (Nat.zero_le _) ?_; intro w5 o5 g5)
    | (at_make; refine wpList_make_own _ rfl _ _ 23 rfl 0 2 j2 _ 1 Try.underlying23 c0 c1 c2 _ _ _ (n + m) rfl rfl (by go_num) (by rw [c3]; omega) (by simp [maxLen]; omega) (Nat.zero_le _) ?_; intro w6 o6 g6)
    | (at_make; refine wpList_make_own _ rfl _ _ 39 rfl 0 3 j3 _ 1 Try.underlying39 d0 d1 d2 _ _ _ (n + m) rfl rfl (by go_num) (by rw [d3]; omega) (by simp [maxLen]; omega) (Nat.zero_le _) ?_; intro w7 o7 g7)
    | (at_make; refine wpList_make_own _ rfl _ _ 23 rfl 0 2 j2 _ 1 Try.underlying23 c0 c1 c2 _ _ _ n rfl rfl rfl (by rw [c3]; omega) (by simp [maxLen]; omega) (Nat.zero_le _) ?_; intro w8 o8 g8)
    | (at_make; refine wpList_make_own _ rfl _ _ 39 rfl 0 3 j3 _ 1 Try.underlying39 d0 d1 d2 _ _ _ n rfl rfl rfl (by rw [d3]; omega) (by simp [maxLen]; omega) (Nat.zero_le _) ?_; intro w9 o9 g9))
  rename_i v3 p3 q3 K0 hK0
  have B1 := below_grown g1
  have B2 := below_grown g2
  have B3 := below_grown q3
  have B4 := below_grown g4
  have B5 := below_grown g3
  have B6 := below_trans (below1 w3 (.map #[] 0)) (below_grown g6)
  have B7 := below_grown g7
  have B8 := below_grown g8
  have B9 := below_grown g9
  have C8 := B9
  have C7 := below_trans B8 C8
  have C6 := below_trans B7 C7
  have C5 := below_trans (below_grown g6) C6
  have C4 := below_trans B6 C6
  have C3 := below_trans B5 C4
  have C2 := below_trans B4 C3
  have C1 := below_trans B3 C2
  have C0 := below_trans B2 C1
  have CW := below_trans B1 C0
  have hp0 : HeapP w9 (Bl w.heap.size w1.heap.size w2.heap.size v3.heap.size w4.heap.size (w3.alloc (.map #[] 0)).heap.size w6.heap.size w7.heap.size w8.heap.size) (PsG n m X 0 0 0 0 0 0 0 0 0) := by
    have kp : ∀ {a : World} {b : Nat} {P : Obj → Prop}, Below a.heap.size a w9 → (∃ o, a.heap[b]? = some o ∧ P o) → ∃ o, w9.heap[b]? = some o ∧ P o := fun hB ⟨o, h1, h2⟩ => ⟨o, (hB.block _ (Array.getElem?_eq_some_iff.1 h1).1).trans h1, h2⟩
    intro j P hj
    match j, hj with
    | 0, hj => cases hj; exact kp C0 (OpsO.of o1)
    | 1, hj => cases hj; exact kp C1 (ClsO.of o2)
    | 2, hj => cases hj; exact kp C2 (FillO.of p3)
    | 3, hj => cases hj; exact kp C3 (FillO.of o4)
    | 4, hj => cases hj; exact kp C4 (FillO.of o3)
    | 5, hj => cases hj; exact kp C6 (AppO.of o6).2
    | 6, hj => cases hj; exact kp C7 (AppO.of o7).2
    | 7, hj => cases hj; exact kp C8 (AppO.of o8).2
    | 8, hj => cases hj; exact kp (Below.refl _ _) (AppO.of o9).2
  have mp0 : SpanMap w9 w3.heap.size 0 (fun _ => (0, 0)) := (SpanMap.made w3).kept (C5.block _ (by simp))
  have lt_of : ∀ {W : World} {base b n cap size : Nat} {e : TypeId} {L : List Value}, W.ownsRow base e size (.slice (some ⟨b, 0, none⟩) n cap) n L → b < W.heap.size := fun h => by
    obtain ⟨cs, h1, _⟩ := row_obj h
    exact (Array.getElem?_eq_some_iff.1 h1).1
  have l1 := lt_of o1
  have l2 := lt_of o2
  have l3 := lt_of p3
  have l4 := lt_of o4
  have l5 := lt_of o3
  have l6 : w3.heap.size < (w3.alloc (.map #[] 0)).heap.size := by simp
  have l7 := lt_of o6
  have l8 := lt_of o7
  have l9 := lt_of o8
  have l10 := lt_of o9
  clear lt_of o1 o2 p3 o4 o3 o6 o7 o8 o9 g1 g2 q3 g4 g3 g6 g7 g8 g9 B1 B2 B3 B4 B5 B6 B7 B8 B9 C0 C1 C2 C3 C4 C5 C6 C7 C8 a0 a1 a2 a3 b0 b1 b2 b3 hmm
  rw [show (w3.alloc (.map #[] 0)).heap.size = w3.heap.size + 1 from by simp] at hp0 l7
  clear l6
  generalize w1.heap.size = b1 at *
  generalize w2.heap.size = b2 at *
  generalize v3.heap.size = b3 at *
  generalize w4.heap.size = b4 at *
  generalize w3.heap.size = b5 at *
  generalize w6.heap.size = b7 at *
  generalize w7.heap.size = b8 at *
  generalize w8.heap.size = b9 at *
  have hst : ∀ i, i < 8 → Bl w.heap.size b1 b2 b3 b4 (b5 + 1) b7 b8 b9 i < Bl w.heap.size b1 b2 b3 b4 (b5 + 1) b7 b8 b9 (i + 1) := by
    intro i hi
    match i, hi with
    | 0, _ => show w.heap.size < b1; omega
    | 1, _ => show b1 < b2; omega
    | 2, _ => show b2 < b3; omega
    | 3, _ => show b3 < b4; omega
    | 4, _ => show b4 < b5 + 1; omega
    | 5, _ => show b5 + 1 < b7; omega
    | 6, _ => show b7 < b8; omega
    | 7, _ => show b8 < b9; omega
  have hBi : ∀ i j, i < 9 → j < 9 → i ≠ j → Bl w.heap.size b1 b2 b3 b4 (b5 + 1) b7 b8 b9 i ≠ Bl w.heap.size b1 b2 b3 b4 (b5 + 1) b7 b8 b9 j := rise_ne hst
  clear hst
  have hne5 : ∀ i, i < 9 → Bl w.heap.size b1 b2 b3 b4 (b5 + 1) b7 b8 b9 i ≠ b5 ∧ w.heap.size ≤ Bl w.heap.size b1 b2 b3 b4 (b5 + 1) b7 b8 b9 i := by
    intro i hi
    match i, hi with
    | 0, _ => show w.heap.size ≠ b5 ∧ w.heap.size ≤ w.heap.size; omega
    | 1, _ => show b1 ≠ b5 ∧ w.heap.size ≤ b1; omega
    | 2, _ => show b2 ≠ b5 ∧ w.heap.size ≤ b2; omega
    | 3, _ => show b3 ≠ b5 ∧ w.heap.size ≤ b3; omega
    | 4, _ => show b4 ≠ b5 ∧ w.heap.size ≤ b4; omega
    | 5, _ => show b5 + 1 ≠ b5 ∧ w.heap.size ≤ b5 + 1; omega
    | 6, _ => show b7 ≠ b5 ∧ w.heap.size ≤ b7; omega
    | 7, _ => show b8 ≠ b5 ∧ w.heap.size ≤ b8; omega
    | 8, _ => show b9 ≠ b5 ∧ w.heap.size ≤ b9; omega
  have HFX : Hid (∀ bx, (∀ i, i < 9 → Bl w.heap.size b1 b2 b3 b4 (b5 + 1) b7 b8 b9 i < bx) → b5 < bx → Fix (Bl w.heap.size b1 b2 b3 b4 (b5 + 1) b7 b8 b9) b5 bx w.heap.size) := fun bx h1 h2 => ⟨hBi, fun i hi => (hne5 i hi).1, fun i hi => (hne5 i hi).2, h1, h2, by omega⟩
  clear hBi hne5
  go_loopw [26, 27, 28, 29, 30] (fun vm vo vr vx vi wr => ∃ (k : Nat) (T : Int → Nat × Nat), k ≤ n ∧ vi = .int .i64 k ∧ vm = .slice (some ⟨b5 + 1, 0, none⟩) (momL X k).length (n + m) ∧ vo = .slice (some ⟨b7, 0, none⟩) (ownL X k).length (n + m) ∧ vr = .slice (some ⟨b8, 0, none⟩) (retL X k).length n ∧ vx = .slice (some ⟨b9, 0, none⟩) (idxL X k).length n ∧
    HeapP wr (Bl w.heap.size b1 b2 b3 b4 (b5 + 1) b7 b8 b9) (PsG n m X k k k k k k k k k) ∧ SpanMap wr b5 k T ∧ Spans n X k T ∧ Below w.heap.size w wr) (fun _ _ _ _ vi _ => n - (intOf vi).toNat)
  case atStart => exact ⟨0, _, Nat.zero_le _, rfl, rfl, rfl, rfl, rfl, hp0, mp0, Spans.zero n X, CW⟩
  case round => as_aux_lemma =>
    obtain ⟨k, T, hkn, rfl, rfl, rfl, rfl, rfl, hp, mp, sp, bel⟩ := hrel
    clear hp0 mp0 CW
    have HSP : Hid _ := sp
    clear sp
    by_cases hk : k < n
    · as_aux_lemma =>
      obtain ⟨b, o, hao, hc⟩ := (hX.keep bel).resolve_left (by omega)
      subst hao
      obtain ⟨s0, s1, s2, s3, s4, s5, s6⟩ := hc k hk
      have f := HFX.out _ (hp.lt rfl) mp.lt
      have F : Hid _ := f
      have hx0 : ¬ wr.heap.size = w.heap.size := by have : w.heap.size < wr.heap.size := f.lt 0 (by omega); omega
      have hx1 : ¬ wr.heap.size = b1 := by have : b1 < wr.heap.size := f.lt 1 (by omega); omega
      have hx2 : ¬ wr.heap.size = b2 := by have : b2 < wr.heap.size := f.lt 2 (by omega); omega
      have hx3 : ¬ wr.heap.size = b3 := by have : b3 < wr.heap.size := f.lt 3 (by omega); omega
      have hx4 : ¬ wr.heap.size = b4 := by have : b4 < wr.heap.size := f.lt 4 (by omega); omega
      have e21 : ¬ b2 = b1 := by omega
      have e31 : ¬ b3 = b1 := by omega
      have e32 : ¬ b3 = b2 := by omega
      have r0 := R1.start (X k) hp mp bel rfl
      have R0 : Hid _ := r0
      clear r0 hp mp bel hc f
      go_wp2_with fail
      refine (regOp_any _ _ _ _ _ _).mono ?_
      rintro e W1 ⟨rfl, B1⟩
      have r1 := R0.out.keep B1
      clear B1 R0 s0 s1 s2 s3 s4 s5 s6
      generalize wr.heap.size = bx at *
      clear wr
      obtain ⟨⟨y0, a0⟩, z0⟩ := r1.opsCells hk 0 (by omega)
      obtain ⟨⟨y1, a1⟩, z1⟩ := r1.opsCells hk 1 (by omega)
      obtain ⟨⟨y2, a2⟩, z2⟩ := r1.opsCells hk 2 (by omega)
      obtain ⟨⟨y3, a3⟩, z3⟩ := r1.opsCells hk 3 (by omega)
      obtain ⟨⟨y4, a4⟩, z4⟩ := r1.opsCells hk 4 (by omega)
      rw [Nat.add_zero] at a0 z0
      obtain ⟨x0, x1, x2, x3, x4, x5, x6⟩ := Wr.cells r1.box
      have R2 : Hid _ := r1.opsPut F.out hk (.bool true) (.int .i64 (X k).v) (.int .i64 (X k).r) (.bool (X k).failed)
      clear r1
      go_wp2_with fail
      refine (clusterOf_any (X k) _).mono ?_
      rintro e W2 ⟨rfl, B2⟩
      have r3 := R2.out.keep B2
      clear B2 R2 x0 x1 x2 x3 x4 x5 x6 a0 a1 a2 a3 a4 z0 z1 z2 z3 z4 y0 y1 y2 y3 y4 W1
      obtain ⟨x0, x1, x2, x3, x4, x5, x6⟩ := Wr.cells r3.box
      have R3 : Hid _ := r3
      clear r3
      go_wp2_with fail
      refine (cluster_any _ _ _ _).mono ?_
      rintro e W3 ⟨rfl, B3⟩
      have r4 := R3.out.keep B3
      clear B3 R3 x0 x1 x2 x3 x4 x5 x6 W2
      obtain ⟨⟨y0, a0⟩, z0⟩ := r4.clsCells hk 0 (by omega)
      obtain ⟨⟨y1, a1⟩, z1⟩ := r4.clsCells hk 1 (by omega)
      obtain ⟨⟨y2, a2⟩, z2⟩ := r4.clsCells hk 2 (by omega)
      rw [Nat.add_zero] at a0 z0
      obtain ⟨⟨y3, a3⟩, z3⟩ := r4.lastCells hk
      obtain ⟨⟨y4, a4⟩, z4⟩ := r4.firstCells hk
      have R7 : Hid _ := ((r4.clsPut F.out hk).lastPut F.out hk).firstPut F.out hk
      clear r4
      go_upto_if 123 with fail
      clear a0 a1 a2 a3 a4 z0 z1 z2 z3 z4 y0 y1 y2 y3 y4
      generalize (((((W3.setCell ⟨b1, k * 3, none⟩ (.int .i64 (X k).c)).setCell ⟨b1, k * 3 + 1, none⟩ (.int .i64 (X k).last)).setCell ⟨b1, k * 3 + 2, none⟩ (.int .i64 (X k).fr)).setCell ⟨b2, k, none⟩ (.int .i64 (X k).last)).setCell ⟨b3, k, none⟩ (.int .i64 (-1))) = W4 at *
      clear W3
      go_cut [26, 27, 34] from 81 to 186 (fun vm vo _ wx => vm = .slice (some ⟨b5 + 1, 0, none⟩) (momL X (k + 1)).length (n + m) ∧ vo = .slice (some ⟨b7, 0, none⟩) (ownL X (k + 1)).length (n + m) ∧ R1 wx (Bl w.heap.size b1 b2 b3 b4 (b5 + 1) b7 b8 b9) (PsG n m X (k + 1) (k + 1) (k + 1) (k + 1) k (k + 1) (k + 1) k k) b5 k T bx (X k) w)
      case first => as_aux_lemma =>
        cases hs : (X k).slot with
        | false =>
          go_wp2_with fail
          go_meet
          exact ⟨by rw [momL_skip hs], by rw [ownL_skip hs], R7.out.skipSlot hs⟩
        | true =>
          have hl1 := momL_le X k
          have hl2 := ownL_le X k
          go_upto_region 23 with (at_builtin; refine wpList_append_fits _ rfl _ _ 23 rfl 0 2 j2 1 Try.underlying23 c0 c2 (b5 + 1) _ (n + m) (momL X k) rfl (R7.out.keep (below1 _ _)).momRow ⟨_, 0, none⟩ 1 1 [.int .i64 (X k).fr] rfl rfl (one_cell _ _ _) (one_one _) (by omega) ?_; intro W5 o5 g5)
          have r8 := (R7.out.keep (below1 _ _)).momPut F.out hs g5 o5
          have R8 : Hid _ := r8
          clear r8 g5 o5
          go_wp2_with (at_builtin; refine wpList_append_fits _ rfl _ _ 39 rfl 0 3 j3 1 Try.underlying39 d0 d2 b7 _ (n + m) (ownL X k) rfl (R8.out.keep (below1 _ _)).ownRow ⟨_, 0, none⟩ 1 1 [.int .i64 (k : Int)] rfl rfl (one_cell _ _ _) (one_one _) (by omega) ?_; intro W6 o6 g6)
          have r9 := (R8.out.keep (below1 _ _)).ownPut F.out hs g6 o6
          go_meet
          exact ⟨by rw [momL_take hs]; simp, by rw [ownL_take hs]; simp, r9⟩
      case rest => as_aux_lemma =>
        obtain ⟨rfl, rfl, r9⟩ := hcut
        clear R7 W4
        obtain ⟨⟨y0, a0⟩, z0⟩ := r9.idleCells hk
        obtain ⟨x0, x1, x2, x3, x4, x5, x6⟩ := Wr.cells r9.box
        have R9 : Hid _ := r9
        clear r9
        go_wp2_with fail
        refine (idle_any (X k) _).mono ?_
        rintro e W6 ⟨rfl, B6⟩
        clear a0 z0 y0 x0 x1 x2 x3 x4 x5 x6
        have HB6 : Hid _ := B6
        clear B6
        go_upto_if 136 with fail
        go_cut [] from 81 to 186 (fun wx => R1 wx (Bl w.heap.size b1 b2 b3 b4 (b5 + 1) b7 b8 b9) (PsG n m X (k + 1) (k + 1) (k + 1) (k + 1) (k + 1) (k + 1) (k + 1) k k) b5 k T bx (X k) w)
        case first => as_aux_lemma =>
          cases hi : (X k).idle with
          | false =>
            have r10 := (R9.out.idlePut F.out hk (-9223372036854775808) (by simp [idleG, hi])).keep HB6.out
            go_wp2_with fail
            go_meet
            exact r10
          | true =>
            have r10 := (R9.out.idlePre F.out hk (-9223372036854775808)).keep HB6.out
            obtain ⟨⟨y0, a0⟩, z0⟩ := r10.idleCells hk
            have R10 : Hid _ := r10.idlePut F.out hk 0 (by simp [idleG, hi])
            clear r10
            go_wp2_with fail
            go_meet
            exact R10.out
        case rest => as_aux_lemma =>
          clear HB6 R9 W6
          rename_i wc2
          obtain ⟨x0, x1, x2, x3, x4, x5, x6⟩ := Wr.cells hcut.box
          have R10 : Hid _ := hcut
          clear hcut
          go_upto_if 142 with fail
          go_cut [28, 29] from 81 to 186 (fun vr vx wx => vr = .slice (some ⟨b8, 0, none⟩) (retL X (k + 1)).length n ∧ vx = .slice (some ⟨b9, 0, none⟩) (idxL X (k + 1)).length n ∧ R1 wx (Bl w.heap.size b1 b2 b3 b4 (b5 + 1) b7 b8 b9) (PsG n m X (k + 1) (k + 1) (k + 1) (k + 1) (k + 1) (k + 1) (k + 1) (k + 1) (k + 1)) b5 k T bx (X k) w)
          case first => as_aux_lemma =>
            cases hf : (X k).failed with
            | true =>
              go_wp2_with fail
              go_meet
              exact ⟨by rw [retL_skip hf], by rw [idxL_skip hf], R10.out.skipDone hf⟩
            | false =>
              have hl1 := retL_le X k
              have hl2 := idxL_le X k
              go_upto_region 29 with (at_builtin; refine wpList_append_fits _ rfl _ _ 23 rfl 0 2 j2 1 Try.underlying23 c0 c2 b8 _ n (retL X k) rfl (R10.out.keep (below1 _ _)).retRow ⟨_, 0, none⟩ 1 1 [.int .i64 (X k).r] rfl rfl (one_cell _ _ _) (one_one _) (by omega) ?_; intro W5 o5 g5)
              have R11 : Hid _ := (R10.out.keep (below1 _ _)).retPut F.out hf g5 o5
              clear g5 o5
              go_wp2_with (at_builtin; refine wpList_append_fits _ rfl _ _ 39 rfl 0 3 j3 1 Try.underlying39 d0 d2 b9 _ n (idxL X k) rfl (R11.out.keep (below1 _ _)).idxRow ⟨_, 0, none⟩ 1 1 [.int .i64 (k : Int)] rfl rfl (one_cell _ _ _) (one_one _) (by omega) ?_; intro W6 o6 g6)
              have r9 := (R11.out.keep (below1 _ _)).idxPut F.out hf g6 o6
              go_meet
              exact ⟨by rw [retL_take hf]; simp, by rw [idxL_take hf]; simp, r9⟩
          case rest => as_aux_lemma =>
            obtain ⟨rfl, rfl, r11⟩ := hcut
            clear R10 x0 x1 x2 x3 x4 x5 x6
            obtain ⟨x0, -⟩ := Wr.cells r11.box
            have R11 : Hid _ := r11
            clear r11
            obtain ⟨q, hq⟩ : ∃ q : Bool, q = decide (k = 0 ∨ (X (k - 1)).v ≠ (X k).v) := ⟨_, rfl⟩
            have HQ : Hid _ := hq
            clear hq
            go_upto_region 30 with fail
            go_cut [164] from 81 to 186 (fun v wx => v = .bool q ∧ R1 wx (Bl w.heap.size b1 b2 b3 b4 (b5 + 1) b7 b8 b9) (PsG n m X (k + 1) (k + 1) (k + 1) (k + 1) (k + 1) (k + 1) (k + 1) (k + 1) (k + 1)) b5 k T bx (X k) w)
            case first => as_aux_lemma =>
              by_cases hk0 : k = 0
              · have hkb : ((k : Int) == 0) = true := by simp [hk0]
                go_quiet (fail)
                go_wp2_with fail
                go_meet
                exact ⟨by rw [HQ.out]; simp [hk0], R11.out.keep (belowN (Below.refl _ _) _)⟩
              · have hkb : ((k : Int) == 0) = false := by simp; omega
                have hv1 := (hX.keep R11.out.bel).v (k - 1) (by omega)
                have i1 : (0 : Int) ≤ (k : Int) - 1 := by omega
                have i2 : (k : Int) - 1 < (n : Int) := by omega
                by_cases he : (X (k - 1)).v = (X k).v
                · have heb : ((X (k - 1)).v != (X k).v) = false := by simp [he]
                  go_quiet (fail)
                  go_wp2_with fail
                  go_meet
                  exact ⟨by rw [HQ.out]; simp [hk0, he], R11.out.keep (belowN (Below.refl _ _) _)⟩
                · have heb : ((X (k - 1)).v != (X k).v) = true := by simp [he]
                  go_quiet (fail)
                  go_wp2_with fail
                  go_meet
                  exact ⟨by rw [HQ.out]; simp [he], R11.out.keep (belowN (Below.refl _ _) _)⟩
            case rest => as_aux_lemma =>
              obtain ⟨rfl, r12⟩ := hcut
              clear R11 x0
              cases q with
              | true =>
                have hnew := of_decide_eq_true HQ.out.symm
                have HNEW : Hid _ := hnew
                clear HQ hnew
                go_wp2_with fail
                go_loopw [35] (fun vj wr => ∃ j : Nat, vj = .int .i64 j ∧ k ≤ j ∧ j ≤ n ∧ (∀ i, k ≤ i → i < j → (X i).v = (X k).v) ∧ R1 wr (Bl w.heap.size b1 b2 b3 b4 (b5 + 1) b7 b8 b9) (PsG n m X (k + 1) (k + 1) (k + 1) (k + 1) (k + 1) (k + 1) (k + 1) (k + 1) (k + 1)) b5 k T bx (X k) w) (fun vj _ => n - (intOf vj).toNat)
                case atStart => exact ⟨k, rfl, Nat.le_refl _, hkn, fun i h1 h2 => by omega, r12⟩
                case round => as_aux_lemma =>
                  clear r12
                  obtain ⟨j, rfl, hj1, hj2, hin, r13⟩ := hrel
                  obtain ⟨x0, -⟩ := Wr.cells r13.box
                  have HIN : Hid _ := hin
                  clear hin
                  have R13 : Hid _ := r13
                  clear r13
                  by_cases hjn : j < n
                  · have sj := (hX.keep R13.out.bel).v j hjn
                    by_cases he : (X j).v = (X k).v
                    · have heb : ((X j).v == (X k).v) = true := by simp [he]
                      have HE : Hid _ := he
                      clear he
                      go_wp2_with fail
                      go_quiet (fail)
                      go_wp2_with fail
                      exact ⟨⟨j + 1, by go_num, by omega, by omega, fun i h1 h2 => by
                        by_cases e : i = j
                        · subst e; exact HE.out
                        · exact HIN.out i h1 (by omega), R13.out.keep (belowN (Below.refl _ _) _)⟩, by simp [intOf]; omega⟩
                    · have heb : ((X j).v == (X k).v) = false := by rw [beq_eq_false_iff_ne]; exact he
                      have hkj : k < j := by
                        by_cases e : j = k
                        · subst e; exact absurd rfl he
                        · omega
                      have HSN : Hid _ := HSP.out.open hsrt hk HNEW.out hkj hj2 HIN.out (.inr he)
                      clear he
                      go_wp2_with fail
                      go_quiet (fail)
                      have r14 := R13.out.keep (belowN (Below.refl _ _) nq)
                      clear R13 sj x0
                      generalize wr.drewN nq = wq at *
                      obtain ⟨x0, -⟩ := Wr.cells r14.box
                      go_upto_region 34 with fail
                      have SPU : Hid _ := r14.upd F.out (by unfold maxLen; omega) (hwf k hk) k j
                      go_region_with (go_at_call 17; refine (span_any _ _ _).mono ?_; rintro e W' ⟨rfl, B'⟩; obtain ⟨W2, hmu, hcl, rr2⟩ := SPU.out W' ⟨B'.os, B'.tape, B'.output, B'.size, B'.block⟩; clear B')
                      all_goals
                        go_wp2_with fail
                        exact ⟨⟨k + 1, _, by omega, by go_num, rfl, rfl, rfl, rfl, rr2.hp, rr2.mp, HSN.out, rr2.bel⟩, by simp [intOf]; omega⟩
                  · have HSN : Hid _ := HSP.out.open hsrt hk HNEW.out (by omega) hj2 HIN.out (.inl (by omega))
                    have hjd : decide (j < n) = false := by simp; omega
                    have hjd2 : decide ((j : Int) < (n : Int)) = false := by simp; omega
                    go_wp2_with fail
                    go_quiet (fail)
                    have r14 := R13.out.keep (belowN (Below.refl _ _) nq)
                    clear R13 x0
                    generalize wr.drewN nq = wq at *
                    obtain ⟨x0, -⟩ := Wr.cells r14.box
                    go_upto_region 34 with fail
                    have SPU : Hid _ := r14.upd F.out (by unfold maxLen; omega) (hwf k hk) k j
                    go_region_with (go_at_call 17; refine (span_any _ _ _).mono ?_; rintro e W' ⟨rfl, B'⟩; obtain ⟨W2, hmu, hcl, rr2⟩ := SPU.out W' ⟨B'.os, B'.tape, B'.output, B'.size, B'.block⟩; clear B')
                    all_goals
                      go_wp2_with fail
                      exact ⟨⟨k + 1, _, by omega, by go_num, rfl, rfl, rfl, rfl, rr2.hp, rr2.mp, HSN.out, rr2.bel⟩, by simp [intOf]; omega⟩
              | false =>
                have hnew := of_decide_eq_false HQ.out.symm
                have HS2 : Hid _ := HSP.out.same (by omega) (by
                  by_cases e : (X (k - 1)).v = (X k).v
                  · exact e
                  · exact absurd (.inr e) hnew)
                have HR12 : Hid _ := r12
                clear hnew r12 HQ
                go_wp2_with fail
                exact ⟨⟨k + 1, T, by omega, by go_num, rfl, rfl, rfl, rfl, HR12.out.hp, HR12.out.mp.mono (by omega), HS2.out, HR12.out.bel⟩, by simp [intOf]; omega⟩
    · as_aux_lemma =>
      have en : n = k := by omega
      subst en
      have F : Hid _ := HFX.out _ (hp.lt rfl) mp.lt
      have R20 : Hid (R2 wr (Bl w.heap.size b1 b2 b3 b4 (b5 + 1) b7 b8 b9) n m X E 0 0 b5 T w) := ⟨by rw [PsE_zero]; exact hp, mp, bel⟩
      have OL : Hid _ := own_len X n
      have IL : Hid _ := idx_len X n
      clear hp mp bel
      go_wp2_with fail
      go_loopw [26, 27, 36] (fun vm vo vi wr => ∃ q : Nat, q ≤ m ∧ vi = .int .i64 q ∧ vm = .slice (some ⟨b5 + 1, 0, none⟩) ((momL X n).length + q) (n + m) ∧ vo = .slice (some ⟨b7, 0, none⟩) ((momL X n).length + q) (n + m) ∧ R2 wr (Bl w.heap.size b1 b2 b3 b4 (b5 + 1) b7 b8 b9) n m X E q q b5 T w) (fun _ _ vi _ => m - (intOf vi).toNat)
      case atStart => exact ⟨0, Nat.zero_le _, rfl, rfl, by rw [OL.out]; rfl, R20.out⟩
      case round => as_aux_lemma =>
        clear R20
        obtain ⟨q, hqm, rfl, rfl, rfl, r2⟩ := hrel
        have R21 : Hid _ := r2
        clear r2
        have hml := momL_le X n
        by_cases hq : q < m
        · as_aux_lemma =>
          obtain ⟨be, oe, hae, hec⟩ := (hE.keep R21.out.bel).resolve_left (by omega)
          subst hae
          have ec := hec q hq
          clear hec
          go_upto_region 39 with (at_builtin; refine wpList_append_fits _ rfl _ _ 23 rfl 0 2 j2 1 Try.underlying23 c0 c2 (b5 + 1) _ (n + m) (momL X n ++ extL E q) rfl (R21.out.keep (below1 _ _)).momRow ⟨_, 0, none⟩ 1 1 [.int .i64 (E q)] rfl rfl (one_cell _ _ _) (one_one _) (by omega) ?_; intro W5 o5 g5)
          have R22 : Hid _ := (R21.out.keep (below1 _ _)).momPut F.out g5 o5
          clear g5 o5 R21
          go_wp2_with (at_builtin; refine wpList_append_fits _ rfl _ _ 39 rfl 0 3 j3 1 Try.underlying39 d0 d2 b7 _ (n + m) (ownL X n ++ negL q) rfl (R22.out.keep (below1 _ _)).ownRow ⟨_, 0, none⟩ 1 1 [.int .i64 (-1)] rfl rfl (one_cell _ _ _) (one_one _) (by omega) ?_; intro W6 o6 g6)
          have r9 := (R22.out.keep (below1 _ _)).ownPut F.out g6 o6
          exact ⟨⟨q + 1, by omega, by go_num, rfl, rfl, r9⟩, by simp [intOf]; omega⟩
        · as_aux_lemma =>
          have eq2 : m = q := by omega
          subst eq2
          have hdl := retL_le X n
          have M0 := R21.out.mem
          clear R21
          have HSL : Hid ((picks (fun i => (X i).slot) n).length + m = (momL X n).length + m) := by exact (by simp [momL] : (picks (fun i => (X i).slot) n).length + m = (momL X n).length + m)
          have HDL : Hid ((picks (fun i => !(X i).failed) n).length = (retL X n).length) := by exact (by simp [retL] : (picks (fun i => !(X i).failed) n).length = (retL X n).length)
          have hs8 : (momL X n).length + m ≤ 8192 := by omega
          have hd4 : (retL X n).length ≤ 4096 := by omega
          clear hdl hml OL
          generalize hse : (momL X n).length + m = s at *
          generalize hde : (retL X n).length = d at *
          clear hse hde
          go_wp2_with fail
          refine (sortPairs_fn (b5 + 1) _ b7 _ s _ _ _ M0.mom M0.own (by omega) hs8).mono ?_
          rintro e W5 ⟨K1, G1, rfl, k1, t1, hasc, hperm, hkp⟩
          have OW : Hid (Owners s (picks (fun i => (X i).slot) n) (fun i => (X i).fr) K1 G1) := by
            have h1 := HSL.out
            have h2 := Owners.of (m := m) (picks_nodup (fun i => (X i).slot) n) (by rw [h1]; exact hperm)
            rw [h1] at h2
            exact h2
          have HAS : Hid _ := hasc
          have CH : Chn w.heap.size w.heap.size b1 b2 b3 b4 b5 (b5 + 1) b7 b8 b9 := ⟨by omega⟩
          have M1 := M0.sortMom CH hkp k1 t1
          clear M0 hkp hperm hasc k1 t1 HSL
          have HM1 : Hid _ := M1
          clear M1
          go_wp2_with (at_make; refine wpList_make_full _ rfl _ _ 23 rfl 0 2 j2 _ 1 Try.underlying23 c0 c1 c2 _ _ _ _ s rfl rfl rfl rfl (by rw [c3]; omega) (by simp [maxLen]; omega) (Nat.zero_le _) ?_; intro W6 o6 g6)
          have M2 := HM1.out.keep (below_grown g6)
          obtain ⟨hC0, hbc⟩ := OwnF.made o6
          have hb9 : b9 < W5.heap.size := HM1.out.size
          clear o6 g6 HM1
          generalize W5.heap.size = bc at *
          clear W5
          go_loopw [38] (fun vi wr => ∃ (q : Nat) (F1 C : Nat → Int), q ≤ s ∧ vi = .int .i64 q ∧ MemS wr n s d X w.heap.size b1 b2 b3 b4 b5 (b5 + 1) b7 b8 b9 T F1 K1 G1 (mixK (picks (fun i => !(X i).failed) n) (fun i => (X i).r) E) (mixT (picks (fun i => !(X i).failed) n)) w ∧ OwnF wr bc s C ∧ bc < wr.heap.size ∧ Firsts n q X G1 F1 C) (fun vi _ => s - (intOf vi).toNat)
          case atStart => exact ⟨0, fun _ => -1, fun _ => 0, Nat.zero_le _, rfl, M2, hC0, hbc, Firsts.zero (fun _ _ => rfl)⟩
          case round => as_aux_lemma =>
            clear M2 hC0 hbc
            obtain ⟨q, F1, C, hqs, rfl, M3, hC, hbc, hfi⟩ := hrel
            have HFI : Hid _ := hfi
            clear hfi
            by_cases hq : q < s
            · as_aux_lemma =>
              have e7c : ¬ b7 = bc := by omega
              have e3c : ¬ b3 = bc := by omega
              have e2c : ¬ b2 = bc := by omega
              have e73 : ¬ b7 = b3 := by omega
              have e23 : ¬ b2 = b3 := by omega
              have ec3 : ¬ bc = b3 := by omega
              have cg := M3.own.ints q hq
              have cc := hC.ints q hq
              have zc := hC.free q hq
              rcases OW.out.some q hq with hneg | ⟨i, hiP, hig, hik⟩
              · rw [hneg] at cg
                have HM : Hid _ := M3.setFar (g := bc) (k := q) (v := .int .i64 (-9223372036854775808)) CH (by omega)
                have HC : Hid _ := hC.set q (-9223372036854775808)
                have HF : Hid _ := HFI.out.skip (C' := fun i => if i = q then -9223372036854775808 else C i) hneg (by simp) (fun x hx => if_neg (by omega))
                clear M3 hC
                go_wp2_with fail
                exact ⟨⟨q + 1, F1, _, by omega, by go_num, HM.out, HC.out, by simpa using hbc, HF.out⟩, by simp [intOf]; omega⟩
              · have hin := (picks_mem.1 hiP).1
                rw [hig] at cg
                have cf := M3.first.ints i hin
                have zf := M3.first.free i hin
                have cl := M3.last.ints i hin
                have HM : Hid _ := ((M3.setFar (g := bc) (k := q) (v := .int .i64 (-9223372036854775808)) CH (by omega)).setFirst (k := i) CH (q : Int)).setFar (g := bc) (k := q) (v := .int .i64 (X i).last) CH (by omega)
                have HC : Hid _ := ((hC.set q (-9223372036854775808)).far (p := ⟨b3, i, none⟩) (by simp; omega) (.int .i64 (q : Int))).set q (X i).last
                have HF : Hid _ := HFI.out.take (F' := fun x => if x = i then (q : Int) else F1 x) (C' := fun x => if x = q then (X i).last else if x = q then -9223372036854775808 else C x) hig (by simp) (fun x hx => if_neg hx) (by simp) (fun x hx => by simp only [show ¬ x = q from by omega, if_false])
                clear M3 hC hig hik hiP
                go_wp2_with fail
                exact ⟨⟨q + 1, _, _, by omega, by go_num, HM.out, HC.out, by simpa using hbc, HF.out⟩, by simp [intOf]; omega⟩
            · as_aux_lemma =>
              have eq3 : s = q := by omega
              subst eq3
              clear hq
              have HM3 : Hid _ := M3
              have HC : Hid _ := hC
              clear M3 hC
              go_wp2_with (at_make; refine wpList_make_full _ rfl _ _ 23 rfl 0 2 j2 _ 1 Try.underlying23 c0 c1 c2 _ _ _ _ n rfl rfl rfl rfl (by rw [c3]; omega) (by simp [maxLen]; omega) (Nat.zero_le _) ?_; intro W7 o7 g7)
              have M4 := HM3.out.keep (below_grown g7)
              have hC4 := HC.out.keep (below_grown g7)
              obtain ⟨hV0, hbv⟩ := OwnF.made o7
              have hbcv : bc < wr.heap.size := hbc
              clear o7 g7 HM3 HC hbc
              generalize wr.heap.size = bv at *
              clear wr
              go_loopw [40] (fun vi wr => ∃ (q : Nat) (V : Nat → Int), q ≤ n ∧ vi = .int .i64 q ∧ MemS wr n s d X w.heap.size b1 b2 b3 b4 b5 (b5 + 1) b7 b8 b9 T F1 K1 G1 (mixK (picks (fun i => !(X i).failed) n) (fun i => (X i).r) E) (mixT (picks (fun i => !(X i).failed) n)) w ∧ OwnF wr bc s C ∧ OwnF wr bv n V ∧ bv < wr.heap.size ∧ ∀ i, i < q → V i = if 0 ≤ F1 i then F1 i else -9223372036854775808) (fun vi _ => n - (intOf vi).toNat)
              case atStart => exact ⟨0, fun _ => 0, Nat.zero_le _, rfl, M4, hC4, hV0, hbv, fun i hi => by omega⟩
              case round => as_aux_lemma =>
                clear M4 hC4 hV0 hbv
                obtain ⟨q, V, hqn, rfl, M5, hC, hV, hbv, hVe⟩ := hrel
                have HVE : Hid _ := hVe
                clear hVe
                by_cases hq : q < n
                · as_aux_lemma =>
                  have e3v : ¬ b3 = bv := by omega
                  have cf := M5.first.ints q hq
                  have cv := hV.ints q hq
                  have zv := hV.free q hq
                  by_cases hf0 : 0 ≤ F1 q
                  · have HM : Hid _ := (M5.setFar (g := bv) (k := q) (v := .int .i64 (-9223372036854775808)) CH (by omega)).setFar (g := bv) (k := q) (v := .int .i64 (F1 q)) CH (by omega)
                    have HC : Hid _ := (hC.far (p := ⟨bv, q, none⟩) (by simp; omega) (.int .i64 (-9223372036854775808))).far (p := ⟨bv, q, none⟩) (by simp; omega) (.int .i64 (F1 q))
                    have HV : Hid _ := (hV.set q (-9223372036854775808)).set q (F1 q)
                    clear M5 hC hV
                    go_wp2_with fail
                    exact ⟨⟨q + 1, _, by omega, by go_num, HM.out, HC.out, HV.out, by simpa using hbv, fun i hi => by
                      by_cases e : i = q
                      · subst e; simp [hf0]
                      · simp only [e, if_false]; exact HVE.out i (by omega)⟩, by simp [intOf]; omega⟩
                  · have hfd : decide (0 ≤ F1 q) = false := by simpa using hf0
                    have HM : Hid _ := M5.setFar (g := bv) (k := q) (v := .int .i64 (-9223372036854775808)) CH (by omega)
                    have HC : Hid _ := hC.far (p := ⟨bv, q, none⟩) (by simp; omega) (.int .i64 (-9223372036854775808))
                    have HV : Hid _ := hV.set q (-9223372036854775808)
                    clear M5 hC hV
                    go_wp2_with fail
                    exact ⟨⟨q + 1, _, by omega, by go_num, HM.out, HC.out, HV.out, by simpa using hbv, fun i hi => by
                      by_cases e : i = q
                      · subst e; simp [hf0]
                      · simp only [e, if_false]; exact HVE.out i (by omega)⟩, by simp [intOf]; omega⟩
                · as_aux_lemma =>
                  have eq4 : n = q := by omega
                  subst eq4
                  clear hq
                  have HM5 : Hid _ := M5
                  have HC5 : Hid _ := hC
                  have HV5 : Hid _ := hV
                  clear M5 hC hV
                  go_wp2_with fail
                  rw [IL.out]
                  refine (sortPairs_fn b8 _ b9 _ d _ _ _ HM5.out.ret HM5.out.idx (by omega) (by omega)).mono ?_
                  rintro e W8 ⟨K2, G2, rfl, k2, t2, hasc2, hperm2, hkp2⟩
                  have OWD : Hid (Owners d (picks (fun i => !(X i).failed) n) (fun i => (X i).r) K2 G2) := by
                    have h1 := HDL.out
                    have h2 := Owners.of (m := 0) (picks_nodup (fun i => !(X i).failed) n) (by rw [Nat.add_zero, h1]; exact hperm2)
                    rw [Nat.add_zero, h1] at h2
                    exact h2
                  have HAS2 : Hid _ := hasc2
                  have HM6 : Hid _ := HM5.out.sortDone CH hkp2 k2 t2
                  have HC6 : Hid _ := HC5.out.kept hkp2 (by simp; omega)
                  have HV6 : Hid _ := HV5.out.kept hkp2 (by simp; omega)
                  have hbv8 : bv < W8.heap.size := Nat.lt_of_lt_of_le hbv hkp2.size
                  clear HM5 HC5 HV5 hkp2 k2 t2 hperm2 hasc2 hbv wr
                  go_wp2_with (at_make; refine wpList_make_full _ rfl _ _ 23 rfl 0 2 j2 _ 1 Try.underlying23 c0 c1 c2 _ _ _ _ d rfl rfl rfl rfl (by rw [c3]; omega) (by simp [maxLen]; omega) (Nat.zero_le _) ?_; intro W9 o9 g9)
                  have M7 := HM6.out.keep (below_grown g9)
                  have hC7 := HC6.out.keep (below_grown g9)
                  have hV7 := HV6.out.keep (below_grown g9)
                  obtain ⟨hL0, hbl⟩ := OwnF.made o9
                  clear o9 g9 HM6 HC6 HV6
                  generalize W8.heap.size = bl at *
                  clear W8
                  go_loopw [42, 43] (fun vi _ wr => ∃ (q : Nat) (L : Nat → Int), q ≤ d ∧ vi = .int .i64 q ∧ MemS wr n s d X w.heap.size b1 b2 b3 b4 b5 (b5 + 1) b7 b8 b9 T F1 K1 G1 K2 G2 w ∧ OwnF wr bc s C ∧ OwnF wr bv n V ∧ OwnF wr bl d L ∧ bl < wr.heap.size ∧ Lates q X G2 L) (fun vi _ _ => d - (intOf vi).toNat)
                  case atStart => exact ⟨0, fun _ => 0, Nat.zero_le _, rfl, M7, hC7, hV7, hL0, hbl, Lates.zero⟩
                  case round => as_aux_lemma =>
                    clear M7 hC7 hV7 hL0 hbl
                    obtain ⟨q, L, hqd, rfl, M8, hC, hV, hL, hbl, hla⟩ := hrel
                    have HLA : Hid _ := hla
                    clear hla
                    by_cases hq : q < d
                    · as_aux_lemma =>
                      have hdo : ∃ j : Nat, j < n ∧ G2 q = j := by
                        rcases OWD.out.some q hq with e | ⟨j, hj, e1, _⟩
                        · exact absurd e (OWD.out.full HDL.out q hq)
                        · exact ⟨j, (picks_mem.1 hj).1, e1⟩
                      obtain ⟨j, hjn, hgj⟩ := hdo
                      obtain ⟨b, o, hao, -⟩ := hX.resolve_left (by omega)
                      subst hao
                      have cs := (hX.keep M8.bel).c j hjn
                      have ci := M8.idx.ints q hq
                      rw [hgj] at ci
                      have cL := hL.ints q hq
                      have zL := hL.free q hq
                      have HGJ : Hid _ := hgj
                      clear hgj
                      by_cases hq0 : q = 0
                      · have hqb : decide (0 < q) = false := by simp; omega
                        have hqb2 : decide ((0 : Int) < (q : Int)) = false := by simp; omega
                        have HM : Hid _ := M8.setFar (g := bl) (k := q) (v := .int .i64 (X j).c) CH (by omega)
                        have HC : Hid _ := hC.far (p := ⟨bl, q, none⟩) (by simp; omega) (.int .i64 (X j).c)
                        have HV : Hid _ := hV.far (p := ⟨bl, q, none⟩) (by simp; omega) (.int .i64 (X j).c)
                        have HL : Hid _ := hL.set q (X j).c
                        have HS : Hid _ := HLA.out.step (L' := fun x => if x = q then (X j).c else L x) (by rw [if_pos hq0, HGJ.out]; simp) (fun x hx => if_neg (by omega))
                        clear M8 hC hV hL hq0
                        go_wp2_with fail
                        exact ⟨⟨q + 1, _, by omega, by go_num, HM.out, HC.out, HV.out, HL.out, by simpa using hbl, HS.out⟩, by simp [intOf]; omega⟩
                      · have cp := hL.ints (q - 1) (by omega)
                        have i1 : (0 : Int) ≤ (q : Int) - 1 := by omega
                        have i2 : (q : Int) - 1 < (d : Int) := by omega
                        have HM : Hid _ := M8.setFar (g := bl) (k := q) (v := .int .i64 (max (X j).c (L (q - 1)))) CH (by omega)
                        have HC : Hid _ := hC.far (p := ⟨bl, q, none⟩) (by simp; omega) (.int .i64 (max (X j).c (L (q - 1))))
                        have HV : Hid _ := hV.far (p := ⟨bl, q, none⟩) (by simp; omega) (.int .i64 (max (X j).c (L (q - 1))))
                        have HL : Hid _ := hL.set q (max (X j).c (L (q - 1)))
                        have HS : Hid _ := HLA.out.step (L' := fun x => if x = q then max (X j).c (L (q - 1)) else L x) (by rw [if_neg hq0, HGJ.out]; simp) (fun x hx => if_neg (by omega))
                        have hq1 : 0 < q := by omega
                        clear M8 hC hV hL hq0
                        go_wp2_with (go_at_call 11; refine (max64_any _ _ _).mono ?_; rintro e w' ⟨rfl, rfl⟩)
                        exact ⟨⟨q + 1, _, by omega, by go_num, HM.out, HC.out, HV.out, HL.out, by simpa using hbl, HS.out⟩, by simp [intOf]; omega⟩
                    · as_aux_lemma =>
                      have eq5 : d = q := by omega
                      subst eq5
                      clear hq
                      have HM8 : Hid _ := M8
                      have HC8 : Hid _ := hC
                      have HV8 : Hid _ := hV
                      have HL8 : Hid _ := hL
                      clear M8 hC hV hL
                      go_wp2_with fail
                      refine (build_fn bc s s C _ HC8.out.ints hs8).mono ?_
                      rintro e W10 ⟨p1, t1, N1, rfl, tr1, p1a, p1b, i1, v1, g1a, g1b, B10⟩
                      go_wp2_with fail
                      refine (build_fn bv n n V _ (HV8.out.keep B10).ints (by omega)).mono ?_
                      rintro e W11 ⟨p2, t2, N2, rfl, tr2, p2a, p2b, i2, v2, g2a, g2b, B11⟩
                      go_wp2_with fail
                      refine (build_fn b4 n n (idleG X) _ ((HM8.out.idle.keep B10).keep B11).ints (by omega)).mono ?_
                      rintro e W12 ⟨p3, t3, N3, rfl, tr3, p3a, p3b, i3, v3, g3a, g3b, B12⟩
                      have M9 := ((HM8.out.keep B10).keep B11).keep B12
                      have hL9 := ((HL8.out.keep B10).keep B11).keep B12
                      have j1 := (i1.keep B11).keep B12
                      have j2 := i2.keep B12
                      have x1 : t1 < W12.heap.size := by have := B11.size; have := B12.size; omega
                      have x2 : t2 < W12.heap.size := by have := B12.size; omega
                      have x3 : bl < W12.heap.size := by have := B10.size; have := B11.size; have := B12.size; omega
                      have ok : ∀ S, (mkD n s d X w.heap.size b1 b3 b5 (b5 + 1) b8 bl t1 t2 t3 (n + m) p1 p2 p3 S nv F1 K1 N1 N2 N3 K2 L).Ok := fun S => mkD_ok hn hs8 hd4 tr1 tr2 tr3 p1a p2a p3a p1b p2b p3b HAS.out HAS2.out
                      have lay : ∀ S, Lay (mkD n s d X w.heap.size b1 b3 b5 (b5 + 1) b8 bl t1 t2 t3 (n + m) p1 p2 p3 S nv F1 K1 N1 N2 N3 K2 L) X := fun S => mkD_lay OW.out HFI.out v1 v2 HVE.out v3
                      have lc : ∀ t, LcbS n X t (lcb K2 L t d) := fun t => lcb_of HAS2.out OWD.out HDL.out HLA.out t
                      have OK : Hid _ := ok
                      have LAY : Hid _ := lay
                      have LC : Hid _ := lc
                      have M10 : Hid _ := M9
                      have HL10 : Hid _ := hL9
                      have J1 : Hid _ := j1
                      have J2 : Hid _ := j2
                      have J3 : Hid _ := i3
                      have XS : Hid (b9 < W12.heap.size ∧ bl < W12.heap.size ∧ t1 < W12.heap.size ∧ t2 < W12.heap.size ∧ t3 < W12.heap.size) := ⟨M9.size, x3, x1, x2, g3b⟩
                      clear ok lay lc M9 hL9 j1 j2 i1 i2 i3 x1 x2 x3 v1 v2 v3 tr1 tr2 tr3 p1a p1b p2a p2b p3a p3b g1a g1b g2a g2b g3a g3b B10 B11 B12 HM8 HC8 HV8 HL8 HLA HFI HVE OWD OW HAS HAS2 HDL W10 W11 wr IL F HFX hbl
                      go_wp2_with fail
                      refine (regOp_any _ _ _ _ _ _).mono ?_
                      rintro e W13 ⟨rfl, B13⟩
                      go_wp2_with fail
                      refine (read_any _ _ _ _ _ _ _).mono ?_
                      rintro e W14 ⟨rfl, B14⟩
                      go_upto_region 70 with fail
                      have BS : Below (W12.alloc (.cells #[.int .i64 steps] 3)).heap.size (W12.alloc (.cells #[.int .i64 steps] 3)) (W14.alloc (.cells #[.bool false, .int .i64 rv, .int .i64 rc, .int .i64 rr, .bool false, .int .i64 sl] 57)) := below_trans B13 (below_trans B14 (below1 _ _))
                      have hbx := heap_alloc_self W14 (.cells #[.bool false, .int .i64 rv, .int .i64 rc, .int .i64 rr, .bool false, .int .i64 sl] 57)
                      have hbrs : W12.heap.size < W14.heap.size := by have h1 := B13.size; have h2 := B14.size; simp at h1; omega
                      clear B13 B14
                      generalize W14.alloc (.cells #[.bool false, .int .i64 rv, .int .i64 rc, .int .i64 rr, .bool false, .int .i64 sl] 57) = W15 at *
                      generalize W14.heap.size = br at *
                      clear W14 W13
                      obtain ⟨A, hA⟩ : ∃ A, A = admitF (mkD n s d X w.heap.size b1 b3 b5 (b5 + 1) b8 bl t1 t2 t3 (n + m) p1 p2 p3 W12.heap.size nv F1 K1 N1 N2 N3 K2 L) rc rr (choicesF (mkD n s d X w.heap.size b1 b3 b5 (b5 + 1) b8 bl t1 t2 t3 (n + m) p1 p2 p3 W12.heap.size nv F1 K1 N1 N2 N3 K2 L) T rv rc rr) steps := ⟨_, rfl⟩
                      have HSC : ∀ W', Below W15.heap.size W15 W' → W'.heap[W12.heap.size]? = some (.cells #[.int .i64 steps] 3) := fun W' hB =>
                        ((below_trans BS hB).block W12.heap.size (by simp)).trans (heap_alloc_self W12 _)
                      have RB : Hid (∀ W', Below W15.heap.size W15 W' → W'.cell? ⟨br, 0, none⟩ = some (.bool false) ∧ W'.cell? ⟨br, 1, none⟩ = some (.int .i64 rv) ∧ W'.cell? ⟨br, 2, none⟩ = some (.int .i64 rc) ∧ W'.cell? ⟨br, 3, none⟩ = some (.int .i64 rr) ∧ W'.cell? ⟨br, 4, none⟩ = some (.bool false) ∧ W'.cell? ⟨br, 5, none⟩ = some (.int .i64 sl)) := fun W' hB => by
                        have h := (hB.block br (Array.getElem?_eq_some_iff.1 hbx).1).trans hbx
                        exact ⟨cell_of h rfl, cell_of h rfl, cell_of h rfl, cell_of h rfl, cell_of h rfl, cell_of h rfl⟩
                      have ZF : Hid (∀ W', Below W15.heap.size W15 W' → Calls Try.prog 21 #[.slice (some ⟨w.heap.size, 0, none⟩) n n, .slice (some ⟨b1, 0, none⟩) n n, .slice (some ⟨b3, 0, none⟩) n n, .map (some b5), .int .i64 nv, .slice (some ⟨b5 + 1, 0, none⟩) s (n + m), .agg #[.int .i64 p1, .slice (some ⟨t1, 0, none⟩) (2 * p1) (2 * p1)], .agg #[.int .i64 p2, .slice (some ⟨t2, 0, none⟩) (2 * p2) (2 * p2)], .agg #[.int .i64 p3, .slice (some ⟨t3, 0, none⟩) (2 * p3) (2 * p3)], .agg #[.slice (some ⟨b8, 0, none⟩) d n, .slice (some ⟨bl, 0, none⟩) d d], .pointer (some ⟨W12.heap.size, 0, none⟩), .agg #[.bool false, .int .i64 rv, .int .i64 rc, .int .i64 rr, .bool false, .int .i64 sl]] W' fun e w' => e = .returned (.tuple #[.int .i64 A.1, .int .i64 A.2.1]) ∧ w'.cell? ⟨W12.heap.size, 0, none⟩ = some (.int .i64 A.2.2) ∧ Below w.heap.size w w' ∧ w'.cell? ⟨br, 0, none⟩ = some (.bool false) ∧ w'.cell? ⟨br, 1, none⟩ = some (.int .i64 rv) ∧ w'.cell? ⟨br, 2, none⟩ = some (.int .i64 rc) ∧ w'.cell? ⟨br, 3, none⟩ = some (.int .i64 rr) ∧ w'.cell? ⟨br, 4, none⟩ = some (.bool false) ∧ w'.cell? ⟨br, 5, none⟩ = some (.int .i64 sl)) := fun W' hB => by
                        have hB2 := below_trans (below1 W12 (.cells #[.int .i64 steps] 3)) (below_trans BS hB)
                        have M11 := M10.out.keep hB2
                        refine (zz_final M11 CH (HL10.out.keep hB2) (IntsF.keep J1.out hB2) (IntsF.keep J2.out hB2) (IntsF.keep J3.out hB2) (OK.out W12.heap.size) XS.out HSP.out hmc rv rc rr sl steps hwv (cell_of (HSC W' hB) rfl) (free_of (HSC W' hB)) hsb).mono ?_
                        rintro e w' ⟨rfl, hc, hk⟩
                        rw [hA]
                        have hbr : br ∉ [W12.heap.size] := by simp; omega
                        obtain ⟨r0, r1, r2, r3, r4, r5⟩ := RB.out W' hB
                        refine ⟨rfl, hc, M11.bel.trans (hk.below M11.bel.size (fun i hi => ?_)), hk.cell r0 hbr, hk.cell r1 hbr, hk.cell r2 hbr, hk.cell r3 hbr, hk.cell r4 hbr, hk.cell r5 hbr⟩
                        have := M10.out.bel.size
                        simp at hi
                        omega
                      have HA : Hid _ := hA
                      have hch : Below W15.heap.size W15 W15 := Below.refl _ _
                      obtain ⟨r0, r1, r2, r3, r4, r5⟩ := RB.out W15 hch
                      clear hA HSC BS hbx M10 HL10 J1 J2 J3 XS
                      go_cut [52, 53] from 54 (fun vc vf wx => vc = .int .i64 A.1 ∧ vf = .int .i64 A.2.1 ∧ wx.cell? ⟨W12.heap.size, 0, none⟩ = some (.int .i64 A.2.2) ∧ Below w.heap.size w wx)
                      case first => as_aux_lemma =>
                        go_region_held3 (fun w' => w'.cell? ⟨br, 0, none⟩ = some (.bool false) ∧ w'.cell? ⟨br, 1, none⟩ = some (.int .i64 rv) ∧ w'.cell? ⟨br, 2, none⟩ = some (.int .i64 rc) ∧ w'.cell? ⟨br, 3, none⟩ = some (.int .i64 rr) ∧ w'.cell? ⟨br, 4, none⟩ = some (.bool false) ∧ w'.cell? ⟨br, 5, none⟩ = some (.int .i64 sl)) (first | exact ⟨r0, r1, r2, r3, r4, r5⟩ | go_keep) (first
                          | (go_at_call 22; refine (tree_any _ _ _ _ _).mono ?_; rintro e W' ⟨rfl, B'⟩; replace hch := below_trans hch ⟨B'.os, B'.tape, B'.output, B'.size, B'.block⟩; clear r0 r1 r2 r3 r4 r5; obtain ⟨r0, r1, r2, r3, r4, r5⟩ := RB.out W' hch; clear B')
                          | (go_at_call 23; refine (over_any _ _ _ _ _ _ _).mono ?_; rintro e W' ⟨rfl, B'⟩; replace hch := below_trans hch ⟨B'.os, B'.tape, B'.output, B'.size, B'.block⟩; clear r0 r1 r2 r3 r4 r5; obtain ⟨r0, r1, r2, r3, r4, r5⟩ := RB.out W' hch; clear B')
                          | (go_at_call 21; refine (ZF.out _ ?_).mono ?_; exact ⟨hch.os, hch.tape, hch.output, hch.size, hch.block⟩; clear r0 r1 r2 r3 r4 r5; rintro e W' ⟨rfl, hcs, hbw, r0, r1, r2, r3, r4, r5⟩))
                        all_goals
                          go_wp2_with fail
                          go_meet
                          exact ⟨rfl, rfl, hcs, hbw⟩
                      case rest => as_aux_lemma =>
                        obtain ⟨rfl, rfl, hcs, hbw⟩ := hcut
                        clear ZF RB r0 r1 r2 r3 r4 r5 hch
                        go_wp2_with fail
                        go_quiet (fail)
                        go_wp2_with fail
                        go_returns
                        exact ⟨_, T, rfl, rfl, LAY.out W12.heap.size, OK.out W12.heap.size, HSP.out, LC.out, by rw [HA.out]; rfl, belowN hbw _⟩

end Go.Proofs.Qxb6609392a
