/-
  The messages as the laws read them: what toWireTS and ZZPackSeqs hand on, and the plain law of a prefix.
-/
import Derived.Test.Qxb6609287aPackOpen
namespace Go.Proofs.Qxb6609287a
open Go.RowKit Go.Shelf

/-- The messages ms lie behind block g. -/
def MsgsAt (W : World) (g : Nat) (ms : List (List Top)) : Prop :=
  ∀ (i : Nat) (m : List Top), ms[i]? = some m → ∃ a c, W.cell? ⟨g, i, none⟩ = some (.slice a m.length c) ∧
    ∀ (q : Nat) (x : Top), m[q]? = some x → ∃ gi, a = some ⟨gi, 0, none⟩ ∧ W.cell? ⟨gi, q * 3, none⟩ = some (.string x.s) ∧ W.cell? ⟨gi, q * 3 + 1, none⟩ = some (.int .u64 x.t) ∧ W.cell? ⟨gi, q * 3 + 2, none⟩ = some (.int .u64 x.h)

theorem cell_keep {W W' : World} (hB : Below W.heap.size W W') {p : Addr} {v : Value} (h : W.cell? p = some v) : W'.cell? p = some v :=
  (hB.cell (World.block_lt_of_cell? W p h)).trans h

theorem MsgsAt.keep {W W' : World} {g : Nat} {ms : List (List Top)} (h : MsgsAt W g ms) (hB : Below W.heap.size W W') : MsgsAt W' g ms := by
  intro i m hm
  obtain ⟨a, c, h1, h2⟩ := h i m hm
  refine ⟨a, c, cell_keep hB h1, fun q x hx => ?_⟩
  obtain ⟨gi, e, c0, c1, c2⟩ := h2 q x hx
  exact ⟨gi, e, cell_keep hB c0, cell_keep hB c1, cell_keep hB c2⟩

theorem SrcTS.keep {W W' : World} {ao : Option Addr} {xs : List Top} (h : SrcTS W ao xs) (hB : Below W.heap.size W W') : SrcTS W' ao xs := by
  rcases h with rfl | ⟨b, o, rfl, hc⟩
  · exact .inl rfl
  · exact .inr ⟨b, o, rfl, fun k x hx => ⟨cell_keep hB (hc k x hx).1, cell_keep hB (hc k x hx).2.1, cell_keep hB (hc k x hx).2.2⟩⟩

theorem SrcTS.take {W : World} {ao : Option Addr} {xs : List Top} (h : SrcTS W ao xs) (k : Nat) : SrcTS W ao (xs.take k) := by
  rcases h with rfl | ⟨b, o, rfl, hc⟩
  · exact .inl (by simp)
  · refine .inr ⟨b, o, rfl, fun j x hx => hc j x ?_⟩
    rw [List.getElem?_take] at hx
    split at hx
    · exact hx
    · simp at hx

theorem below_trans {a b c : World} (h : Below a.heap.size a b) (k : Below b.heap.size b c) : Below a.heap.size a c := h.trans (k.mono h.size)

theorem MsgsAt.of {W : World} {base n₀ G g cap : Nat} {vs : List Value} {ms : List (List Top)} (hv : W.ownsRow base 52 1 (.slice (some ⟨g, 0, none⟩) vs.length cap) vs.length vs) (hr : RowsAt W n₀ G vs ms) : MsgsAt W g ms := by
  intro i m hm
  have hi := (List.getElem?_eq_some_iff.1 hm).1
  obtain ⟨v, hvi⟩ : ∃ v, vs[i]? = some v := ⟨_, List.getElem?_eq_getElem (by rw [hr.1]; exact hi)⟩
  obtain ⟨hrow, _⟩ := hr.2 i v m hvi hm
  have hcv : W.cell? ⟨g, i, none⟩ = some v := (hv.cellAt i (by rw [hr.1]; omega)).trans hvi
  obtain ⟨va, vc, rfl⟩ := ownsRow_len hrow
  refine ⟨va, vc, hcv, fun q x hx => ?_⟩
  obtain ⟨gi, ci, e, c0, c1, c2⟩ := row_at hrow (Below.refl _ W) hx
  cases e
  exact ⟨gi, rfl, c0, c1, c2⟩

/-- What ZZPackSeqs hands on: the messages in slice (g1, c1), the last marks in slice (g2, c2). -/
structure OutP (W : World) (ms : List (List Top)) (g1 c1 g2 c2 : Nat) : Prop where
  msgs : MsgsAt W g1 ms
  vals : ∃ base n₀ G vs, vs.length = ms.length ∧ W.ownsRow base 52 1 (.slice (some ⟨g1, 0, none⟩) vs.length c1) vs.length vs ∧ RowsAt W n₀ G vs ms
  lasts : ∃ base n, ms.length = n + 1 ∧ W.ownsRow base 4 1 (.slice (some ⟨g2, 0, none⟩) (n + 1) c2) (n + 1) (List.replicate n (.bool false) ++ [.bool true])

theorem packs_len (xs : List Top) : (packs xs).length ≤ xs.length + 1 := by
  rw [packs_length]; have := pfold_len xs; omega
theorem packs_pos (xs : List Top) : 0 < (packs xs).length := by rw [packs_length]; omega

theorem zzPack2 (g cap : Nat) (xs : List Top) (w : World) (hsrc : w.ownsRow 0 60 3 (.slice (some ⟨g, 0, none⟩) xs.length cap) xs.length (flat xs))
    (hxs : ∀ x ∈ xs, x.s.size ≤ 1048576) (hlen : xs.length ≤ 32768) :
    Calls Try.prog 19 #[.slice (some ⟨g, 0, none⟩) xs.length cap] w fun e W' => ∃ g1 c1 g2 c2, e = .returned (.tuple #[.slice (some ⟨g1, 0, none⟩) (packs xs).length c1, .slice (some ⟨g2, 0, none⟩) (packs xs).length c2]) ∧ OutP W' (packs xs) g1 c1 g2 c2 ∧ Below w.heap.size w W' := by
  refine (zzPack_any g cap xs w hsrc hxs hlen).mono ?_
  rintro e W' ⟨vo, vl, vs, v, rfl, h1, h2, h3, h4⟩
  obtain ⟨g1, c1, rfl⟩ := ownsRow_succ h1
  obtain ⟨g2, c2, rfl⟩ := ownsRow_succ h2
  have hl : (packs xs).length = vs.length + 1 := by rw [← h3.1]; simp
  have e1 : (vs ++ [v]).length = vs.length + 1 := by simp
  have h1' : W'.ownsRow w.heap.size 52 1 (.slice (some ⟨g1, 0, none⟩) (vs ++ [v]).length c1) (vs ++ [v]).length (vs ++ [v]) := by rw [e1]; exact h1
  have e2 : vs.map (fun _ => Value.bool false) = List.replicate vs.length (.bool false) := by
    exact List.map_const'
  rw [e2] at h2
  refine ⟨g1, c1, g2, c2, by rw [hl], ⟨MsgsAt.of h1' h3, ⟨_, _, _, _, h3.1, h1', h3⟩, ⟨_, _, hl, h2⟩⟩, h4⟩

theorem carries2 {w : World} {ms : List (List Top)} {g1 c1 g2 c2 : Nat} (h : OutP w ms g1 c1 g2 c2) (ys : List Top) (hy : ms.flatten = ys) (ao : Option Addr) (capT : Nat) (hsrc : SrcTS w ao ys) (hl1 : ms.length ≤ 40000) (hl2 : ys.length ≤ 32768) :
    Calls Try.prog 22 #[.slice (some ⟨g1, 0, none⟩) ms.length c1, .slice ao ys.length capT] w fun e w' => e = .returned (.bool true) ∧ Below w.heap.size w w' := by
  obtain ⟨base, n₀, G, vs, hl, hv, hr⟩ := h.vals
  rw [← hl]
  exact carries_any g1 c1 base n₀ G vs ms ys hy ao capT w hv hr hsrc (by omega) hl2

theorem onlyLast2 {w : World} {ms : List (List Top)} {g1 c1 g2 c2 : Nat} (h : OutP w ms g1 c1 g2 c2) (hl1 : ms.length ≤ 40000) :
    Calls Try.prog 21 #[.slice (some ⟨g2, 0, none⟩) ms.length c2] w fun e w' => e = .returned (.bool true) ∧ w' = w := by
  obtain ⟨base, n, hl, hr⟩ := h.lasts
  rw [show ((ms.length : Nat)) = n + 1 from hl]
  exact onlyLast_any g2 c2 base n w hr (by omega)

/-- toWireTS, then ready for ZZPackSeqs. -/
theorem toWire2 (ao : Option Addr) (cap : Nat) (xs : List Top) (w : World) (h : SrcTS w ao xs) (hlen : xs.length ≤ 32768) :
    Calls Try.prog 20 #[.slice ao xs.length cap] w fun e w' => e = .returned (.slice (some ⟨w.heap.size, 0, none⟩) xs.length xs.length) ∧ w'.ownsRow 0 60 3 (.slice (some ⟨w.heap.size, 0, none⟩) xs.length xs.length) xs.length (flat xs) ∧ Below w.heap.size w w' :=
  (toWire_any ao cap xs w h hlen).mono fun _ _ ⟨h1, h2, h3⟩ => ⟨h1, ownsRow_base h2 (Nat.zero_le _), h3⟩

theorem cnt_append_left (d : List (List Top)) (L : List (List Top)) {i : Nat} (h : i ≤ d.length) : cnt (d ++ L) i = cnt d i := by
  unfold cnt; rw [List.take_append_of_le_length h]

theorem prefix_plain (xs : List Top) (k : Nat) (h1 : 1 ≤ k) (h2 : k ≤ xs.length) : (packs (xs.take k)).length ≤ (packs xs).length ∧
    ∀ i, i < (packs (xs.take k)).length → ∃ mf mp, (packs xs)[i]? = some mf ∧ (packs (xs.take k))[i]? = some mp ∧ cnt (packs xs) i < k ∧
      (mp.length = mf.length ∧ mf.length ≤ k - cnt (packs xs) i ∨ mp.length = k - cnt (packs xs) i ∧ k - cnt (packs xs) i < mf.length) ∧
      (∀ (j : Nat) (x : Top), mp[j]? = some x → mf[j]? = some x) ∧ (i + 1 < (packs (xs.take k)).length ∨ i + 1 = (packs (xs.take k)).length ∧ k ≤ cnt (packs xs) (i + 1)) := by
  obtain ⟨more, rest, hF⟩ := packs_more (xs.take k) (xs.drop k)
  rw [List.take_append_drop] at hF
  have hfl := pfold_flat (xs.take k)
  have hlen : (xs.take k).length = k := by simp; omega
  have hcne : (pfold (xs.take k)).2 ≠ [] := by
    obtain ⟨k', rfl⟩ : ∃ k', k = k' + 1 := ⟨k - 1, by omega⟩
    obtain ⟨y, hy⟩ : ∃ y, xs[k']? = some y := ⟨_, List.getElem?_eq_getElem (by omega)⟩
    have : xs.take (k' + 1) = xs.take k' ++ [y] := by rw [List.take_add_one, hy]; rfl
    rw [this]; exact pfold_cur_ne _ _
  have hP : packs (xs.take k) = (pfold (xs.take k)).1 ++ [(pfold (xs.take k)).2] := rfl
  rw [hF, hP]
  generalize (pfold (xs.take k)).1 = d at *
  generalize (pfold (xs.take k)).2 = c at *
  have hkl : d.flatten.length + c.length = k := by rw [← hlen, ← hfl, List.length_append]
  have hcp : 0 < c.length := List.length_pos_iff.2 hcne
  refine ⟨by simp, fun i hi => ?_⟩
  simp at hi
  by_cases hlt : i < d.length
  · obtain ⟨m, hm⟩ : ∃ m, d[i]? = some m := ⟨_, List.getElem?_eq_getElem hlt⟩
    refine ⟨m, m, ?_, ?_, ?_, ?_, fun j x h => h, .inl (by simp; omega)⟩
    · rw [List.getElem?_append_left hlt]; exact hm
    · rw [List.getElem?_append_left hlt]; exact hm
    · rw [cnt_append_left _ _ (by omega)]; have := cnt_le d i; omega
    · rw [cnt_append_left _ _ (by omega)]
      have e := cnt_succ hm
      have := cnt_le d (i + 1)
      exact .inl ⟨rfl, by omega⟩
  · obtain rfl : i = d.length := by omega
    have e1 : (d ++ (c ++ more) :: rest)[d.length]? = some (c ++ more) := by rw [List.getElem?_append_right (by omega)]; simp
    have e2 : cnt (d ++ (c ++ more) :: rest) d.length = d.flatten.length := by rw [cnt_append_left _ _ (by omega), cnt_all]
    refine ⟨c ++ more, c, e1, by simp, by rw [e2]; omega, ?_, fun j x h => ?_, .inr ⟨by simp, ?_⟩⟩
    · rw [e2]
      by_cases hm : more.length = 0
      · exact .inl ⟨by simp [hm], by rw [List.length_append, hm]; omega⟩
      · exact .inr ⟨by omega, by rw [List.length_append]; omega⟩
    · rw [List.getElem?_append_left (List.getElem?_eq_some_iff.1 h).1]; exact h
    · rw [cnt_succ e1, e2, List.length_append]; omega
end Go.Proofs.Qxb6609287a
