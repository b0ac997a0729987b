/-
  toWireTS: the topics copied into a new slice. carriesTS: the messages carry the topics.
-/
import Derived.Test.Qxb6609287aPackTop
namespace Go.Proofs.Qxb6609287a
open Go.RowKit Go.Shelf

theorem set3_take {α : Type} (L : List α) (i : Nat) (a b c : α) (h : i + 3 ≤ L.length) : (((L.set i a).set (i + 1) b).set (i + 2) c).take (i + 3) = L.take i ++ [a, b, c] := by
  obtain ⟨A, B, hL, hA⟩ : ∃ A B, L = A ++ B ∧ A.length = i := ⟨L.take i, L.drop i, (List.take_append_drop i L).symm, by simp; omega⟩
  subst hL
  subst hA
  match B, h with
  | [], h => simp at h; omega
  | [_], h => simp at h
  | [_, _], h => simp at h
  | x :: y :: z :: B, h =>
    rw [List.set_append_right _ _ (by omega), List.set_append_right _ _ (by omega), List.set_append_right _ _ (by omega)]
    simp [List.take_append, List.take_of_length_le]

set_option maxRecDepth 100000 in
set_option maxHeartbeats 1000000 in
theorem toWire_any (ao : Option Addr) (cap : Nat) (xs : List Top) (w : World) (h : SrcTS w ao xs) (hlen : xs.length ≤ 32768) :
    Calls Try.prog 20 #[.slice ao xs.length cap] w fun e w' => e = .returned (.slice (some ⟨w.heap.size, 0, none⟩) xs.length xs.length) ∧ w'.ownsRow w.heap.size 60 3 (.slice (some ⟨w.heap.size, 0, none⟩) xs.length xs.length) xs.length (flat xs) ∧ Below w.heap.size w w' := by
  obtain ⟨i0, hi, hz0, hz1, hz2⟩ := info_parts Try.info60
  go_enter Try.func20, Try.ntmps20
  go_wp2_with (at_make; refine wpList_make_full _ rfl _ _ 52 rfl w.heap.size 60 i0 _ 3 Try.underlying52 hi hz0 hz1 _ _ _ _ xs.length rfl rfl rfl rfl (by rw [hz2]; omega) (by simp [maxLen]; omega) (Nat.le_refl _) ?_; intro w1 hown hgrow)
  have HO : Hid _ := hown
  have HG : Hid _ := hgrow
  clear hown hgrow hi hz0 hz1 hz2
  go_loopw [4] (fun i wr => ∃ (k : Nat) (L : List Value), k ≤ xs.length ∧ i = .int .i64 k ∧ wr.ownsRow w.heap.size 60 3 (.slice (some ⟨w.heap.size, 0, none⟩) xs.length xs.length) xs.length L ∧ L.take (k * 3) = flat (xs.take k) ∧ Below w.heap.size w wr) (fun i _ => xs.length - (intOf i).toNat)
  case atStart => exact ⟨0, _, Nat.zero_le _, rfl, HO.out, by simp [flat], (Below.refl _ w).grown HG.out (Nat.le_refl _) (fun k e => by cases e)⟩
  case round =>
    clear HO HG
    obtain ⟨k, L, hk, rfl, hrow, htk, hB⟩ := hrel
    have HTK : Hid _ := htk
    clear htk
    have hLl : L.length = xs.length * 3 := hrow.1
    by_cases hlt : k < xs.length
    · obtain ⟨x, hx⟩ : ∃ x, xs[k]? = some x := ⟨_, List.getElem?_eq_getElem hlt⟩
      rcases h with rfl | ⟨b, o, rfl, hc⟩
      · simp at hlt
      obtain ⟨c0, c1, c2⟩ := hc k x hx
      have hbl : b < w.heap.size := World.block_lt_of_cell? w _ c0
      have e0 := (hB.cell (p := ⟨b, o + k * 3, none⟩) hbl).trans c0
      have e1 := (hB.cell (p := ⟨b, o + k * 3 + 1, none⟩) hbl).trans c1
      have e2 := (hB.cell (p := ⟨b, o + k * 3 + 2, none⟩) hbl).trans c2
      obtain ⟨y0, f0⟩ : ∃ y, wr.cell? ⟨w.heap.size, k * 3, none⟩ = some y := ⟨L[k * 3], (hrow.cellAt (k * 3) (by omega)).trans (List.getElem?_eq_getElem (by omega))⟩
      obtain ⟨y1, f1⟩ : ∃ y, wr.cell? ⟨w.heap.size, k * 3 + 1, none⟩ = some y := ⟨L[k * 3 + 1], (hrow.cellAt (k * 3 + 1) (by omega)).trans (List.getElem?_eq_getElem (by omega))⟩
      obtain ⟨y2, f2⟩ : ∃ y, wr.cell? ⟨w.heap.size, k * 3 + 2, none⟩ = some y := ⟨L[k * 3 + 2], (hrow.cellAt (k * 3 + 2) (by omega)).trans (List.getElem?_eq_getElem (by omega))⟩
      have g0 := hrow.frozenAt (k * 3)
      have g1 := hrow.frozenAt (k * 3 + 1)
      have g2 := hrow.frozenAt (k * 3 + 2)
      have hbn : b ≠ w.heap.size := by omega
      have hbn' : w.heap.size ≠ b := by omega
      have r3 := (((hrow.stored (k * 3) (.string x.s)).1.stored (k * 3 + 1) (.int .u64 x.t)).1.stored (k * 3 + 2) (.int .u64 x.h)).1
      have b3 := ((hB.setCell (p := ⟨w.heap.size, k * 3, none⟩) (Nat.le_refl _) (.string x.s)).setCell (p := ⟨w.heap.size, k * 3 + 1, none⟩) (Nat.le_refl _) (.int .u64 x.t)).setCell (p := ⟨w.heap.size, k * 3 + 2, none⟩) (Nat.le_refl _) (.int .u64 x.h)
      have R3 : Hid _ := r3
      have B3 : Hid _ := b3
      have T3 : Hid _ := set3_take L (k * 3) (.string x.s) (.int .u64 x.t) (.int .u64 x.h) (by omega)
      have HX : Hid _ := (take_snoc_at hx).2
      clear r3 b3 hrow hB hc c0 c1 c2 hx hLl
      go_wp2
      go_region_held3 (fun w' => w'.cell? ⟨b, o + k * 3, none⟩ = some (.string x.s) ∧ w'.cell? ⟨b, o + k * 3 + 1, none⟩ = some (.int .u64 x.t) ∧ w'.cell? ⟨b, o + k * 3 + 2, none⟩ = some (.int .u64 x.h)) (simp [go_sem, World.cell?_setCell_far, *]) (fail)
      go_wp2
      refine ⟨⟨k + 1, _, by omega, by go_num, R3.out, ?_, B3.out.drew⟩, by simp [intOf]; omega⟩
      rw [show (k + 1) * 3 = k * 3 + 3 from by omega, T3.out, HTK.out, ← HX.out, flat_snoc]
      rfl
    · obtain rfl : k = xs.length := by omega
      go_wp2
      go_ret
      refine ⟨rfl, ?_, hB⟩
      have : L = flat xs := by
        have := HTK.out
        rwa [List.take_length, List.take_of_length_le (by omega)] at this
      rw [← this]; exact hrow

theorem ownsRow_len {W : World} {base : Nat} {e : TypeId} {size : Nat} {v : Value} {n : Nat} {xs : List Value} (h : W.ownsRow base e size v n xs) : ∃ a c, v = .slice a n c := by
  rcases h.2 with ⟨rfl, rfl⟩ | ⟨g, cap, cur, rfl, _⟩
  · exact ⟨_, _, rfl⟩
  · exact ⟨_, _, rfl⟩

/-- How many topics lie in the first k messages. -/
def cnt (ms : List (List Top)) (k : Nat) : Nat := (ms.take k).flatten.length
theorem cnt_succ {ms : List (List Top)} {k : Nat} {m : List Top} (h : ms[k]? = some m) : cnt ms (k + 1) = cnt ms k + m.length := by
  obtain ⟨hk, rfl⟩ := List.getElem?_eq_some_iff.1 h
  unfold cnt
  rw [List.take_succ_eq_append_getElem hk, List.flatten_append, List.length_append]
  simp only [List.flatten_cons, List.flatten_nil, List.append_nil]
theorem cnt_le (ms : List (List Top)) (k : Nat) : cnt ms k ≤ ms.flatten.length := by
  have h : ms.flatten = (ms.take k).flatten ++ (ms.drop k).flatten := by rw [← List.flatten_append, List.take_append_drop]
  rw [h, List.length_append]; unfold cnt; omega
theorem cnt_all (ms : List (List Top)) : cnt ms ms.length = ms.flatten.length := by unfold cnt; rw [List.take_length]
theorem cnt_at {ms : List (List Top)} {k j : Nat} {m : List Top} {x : Top} (h : ms[k]? = some m) (hx : m[j]? = some x) : ms.flatten[cnt ms k + j]? = some x := by
  obtain ⟨hk, rfl⟩ := List.getElem?_eq_some_iff.1 h
  have hj := (List.getElem?_eq_some_iff.1 hx).1
  have h : ms.flatten = (ms.take k).flatten ++ (ms[k] ++ (ms.drop (k + 1)).flatten) := by rw [← List.flatten_cons, ← List.drop_eq_getElem_cons hk, ← List.flatten_append, List.take_append_drop]
  rw [h]; unfold cnt
  rw [List.getElem?_append_right (by omega), Nat.add_sub_cancel_left, List.getElem?_append_left hj]
  exact hx

theorem belowN {B : Nat} {a w : World} (h : Below B a w) (n : Nat) : Below B a (w.drewN n) := h.trans ⟨rfl, rfl, rfl, Nat.le_refl _, fun _ _ => rfl⟩

theorem cell_alloc_any {W : World} {a : Addr} {v : Value} (h : W.cell? a = some v) (o : Obj) : (W.alloc o).cell? a = some v := (World.cell?_alloc_lt _ _ _ (World.block_lt_of_cell? W a h)).trans h

/-- Topic number k of the slice at ao, in a later world. -/
theorem SrcTS.at {W W' : World} {ao : Option Addr} {ys : List Top} (h : SrcTS W ao ys) (hB : Below W.heap.size W W') {k : Nat} {x : Top} (hx : ys[k]? = some x) : ∃ b o, ao = some ⟨b, o, none⟩ ∧
    W'.cell? ⟨b, o + k * 3, none⟩ = some (.string x.s) ∧ W'.cell? ⟨b, o + k * 3 + 1, none⟩ = some (.int .u64 x.t) ∧ W'.cell? ⟨b, o + k * 3 + 2, none⟩ = some (.int .u64 x.h) := by
  rcases h with rfl | ⟨b, o, rfl, hc⟩
  · simp at hx
  · obtain ⟨c0, c1, c2⟩ := hc k x hx
    have hbl : b < W.heap.size := World.block_lt_of_cell? W _ c0
    exact ⟨b, o, rfl, (hB.cell (p := ⟨b, o + k * 3, none⟩) hbl).trans c0, (hB.cell (p := ⟨b, o + k * 3 + 1, none⟩) hbl).trans c1, (hB.cell (p := ⟨b, o + k * 3 + 2, none⟩) hbl).trans c2⟩

/-- Topic number q of an owned row, in a later world. -/
theorem row_at {W W' : World} {base n : Nat} {v : Value} {m : List Top} (h : W.ownsRow base 60 3 v n (flat m)) (hB : Below W.heap.size W W') {q : Nat} {x : Top} (hx : m[q]? = some x) : ∃ gi ci, v = .slice (some ⟨gi, 0, none⟩) n ci ∧
    W'.cell? ⟨gi, q * 3, none⟩ = some (.string x.s) ∧ W'.cell? ⟨gi, q * 3 + 1, none⟩ = some (.int .u64 x.t) ∧ W'.cell? ⟨gi, q * 3 + 2, none⟩ = some (.int .u64 x.h) := by
  have hl := h.1
  rw [flat_length] at hl
  have hq := (List.getElem?_eq_some_iff.1 hx).1
  rcases h.2 with ⟨rfl, hn⟩ | ⟨gi, ci, cur, rfl, _, hgi, _⟩
  · omega
  · have hlt : gi < W.heap.size := (Array.getElem?_eq_some_iff.1 hgi).1
    refine ⟨gi, ci, rfl, (hB.cell (p := ⟨gi, q * 3, none⟩) hlt).trans ((h.cellAt (q * 3) (by omega)).trans ?_), (hB.cell (p := ⟨gi, q * 3 + 1, none⟩) hlt).trans ((h.cellAt (q * 3 + 1) (by omega)).trans ?_), (hB.cell (p := ⟨gi, q * 3 + 2, none⟩) hlt).trans ((h.cellAt (q * 3 + 2) (by omega)).trans ?_)⟩
    · simpa [Top.cells] using flat_at hx 0 (by omega)
    · simpa [Top.cells] using flat_at hx 1 (by omega)
    · simpa [Top.cells] using flat_at hx 2 (by omega)

set_option maxRecDepth 100000 in
set_option maxHeartbeats 2000000 in
/-- carriesTS: the messages, read one after another, carry the topics: it answers true. -/
theorem carries_any (g cap base n₀ G : Nat) (vs : List Value) (ms : List (List Top)) (ys : List Top) (hy : ms.flatten = ys) (ao : Option Addr) (capT : Nat) (w : World) (hv : w.ownsRow base 52 1 (.slice (some ⟨g, 0, none⟩) vs.length cap) vs.length vs) (hr : RowsAt w n₀ G vs ms)
    (hsrc : SrcTS w ao ys) (hl1 : vs.length ≤ 40000) (hl2 : ys.length ≤ 32768) :
    Calls Try.prog 22 #[.slice (some ⟨g, 0, none⟩) vs.length cap, .slice ao ys.length capT] w fun e w' => e = .returned (.bool true) ∧ Below w.heap.size w w' := by
  have hcle : ∀ k, cnt ms k ≤ ys.length := fun k => by rw [← hy]; exact cnt_le ms k
  have HY : Hid _ := hy
  have HCL : Hid _ := hcle
  clear hy hcle
  go_enter Try.func22, Try.ntmps22
  go_wp2
  go_loopw [5, 6] (fun p i wr => ∃ k pp : Nat, k ≤ vs.length ∧ i = .int .i64 k ∧ p = .int .i64 pp ∧ pp = cnt ms k ∧ Below w.heap.size w wr) (fun _ i _ => vs.length - (intOf i).toNat)
  case atStart => exact ⟨0, 0, Nat.zero_le _, rfl, rfl, rfl, Below.refl _ _⟩
  case round =>
    obtain ⟨k, pp, hk, rfl, rfl, hpp, hB⟩ := hrel
    obtain ⟨wo, rfl⟩ : ∃ wo : World, wo = wr := ⟨_, rfl⟩
    have hcl := HCL.out k
    by_cases hlt : k < vs.length
    · obtain ⟨v, hvk⟩ : ∃ v, vs[k]? = some v := ⟨_, List.getElem?_eq_getElem hlt⟩
      obtain ⟨m, hmk⟩ : ∃ m, ms[k]? = some m := ⟨_, List.getElem?_eq_getElem (by rw [← hr.1]; exact hlt)⟩
      obtain ⟨hrow, _⟩ := hr.2 k v m hvk hmk
      have hcv : w.cell? ⟨g, k, none⟩ = some v := (hv.cellAt k (by omega)).trans hvk
      have hgl : g < w.heap.size := (hv.lt g rfl).2
      have hcs := cnt_succ hmk
      have hcl2 := HCL.out (k + 1)
      have hml : pp + m.length ≤ ys.length := by omega
      have HCS : Hid (cnt ms (k + 1) = pp + m.length) := by rw [hcs, hpp]; rfl
      have HAT : Hid (∀ q x, m[q]? = some x → ys[pp + q]? = some x) := by
        intro q x hx; rw [← HY.out, hpp]; exact cnt_at hmk hx
      obtain ⟨va, vc, rfl⟩ := ownsRow_len hrow
      have c0 := (hB.cell (p := ⟨g, k, none⟩) hgl).trans hcv
      have HROW : Hid _ := hrow
      have HV : Hid _ := hv
      have HR : Hid _ := hr
      have HSRC : Hid _ := hsrc
      clear hcs hcl2 hcl hpp hrow hmk hvk hv hr hsrc
      go_wp2
      go_loopw [5, 7] (fun p j wr => ∃ q p2 : Nat, q ≤ m.length ∧ j = .int .i64 q ∧ p = .int .i64 p2 ∧ p2 = pp + q ∧ Below w.heap.size w wr) (fun _ j _ => m.length - (intOf j).toNat)
      case atStart => exact ⟨0, pp, Nat.zero_le _, rfl, rfl, rfl, hB⟩
      case round =>
        obtain ⟨q, p2, hq, rfl, rfl, hp2, hB2⟩ := hrel
        have hc2 := (hB2.cell (p := ⟨g, k, none⟩) hgl).trans hcv
        clear c0
        by_cases hqlt : q < m.length
        · obtain ⟨x, hx⟩ : ∃ x, m[q]? = some x := ⟨_, List.getElem?_eq_getElem hqlt⟩
          obtain ⟨gi, ci, hvv, f0, f1, f2⟩ := row_at HROW.out hB2 hx
          cases hvv
          obtain ⟨b, o, hao, t0, t1, t2⟩ := SrcTS.at HSRC.out hB2 (HAT.out q x hx)
          subst hao
          rw [← hp2] at t0 t1 t2
          have hplt : p2 < ys.length := by omega
          have s0 := cell_alloc_any t0
          have s1 := cell_alloc_any t1
          have s2 := cell_alloc_any t2
          have HP2 : Hid _ := hp2
          clear hx hp2 t0 t1 t2
          go_wp2
          go_quiet (fail)
          go_wp2
          exact ⟨⟨q + 1, p2 + 1, by omega, by go_num, by go_num, by rw [HP2.out]; omega, belowN (hB2.alloc hB2.size _) _⟩, by simp [intOf]; omega⟩
        · obtain rfl : q = m.length := by omega
          have HP2 : Hid _ := hp2
          clear hp2
          go_wp2
          exact ⟨⟨k + 1, p2, by omega, by go_num, rfl, by rw [HP2.out, HCS.out], hB2⟩, by simp [intOf]; omega⟩
    · obtain rfl : k = vs.length := by omega
      have he : pp = ys.length := by rw [hpp, hr.1, cnt_all, HY.out]
      subst he
      clear hpp hr hsrc hv
      go_wp2
      go_ret
      exact ⟨rfl, hB⟩
end Go.Proofs.Qxb6609287a
