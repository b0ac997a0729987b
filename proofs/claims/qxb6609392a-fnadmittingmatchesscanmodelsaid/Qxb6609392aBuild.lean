/-
  zzBuildTree.
-/
import Derived.Test.Qxb6609392aAdmit
import Derived.Deep.RegionWith
import Derived.OwnWalk
import Derived.Laws.OwnMore
namespace Go.Proofs.Qxb6609392a
open Go.RowKit

theorem Try.info2 : (Try.prog.info? 2).map (fun i => (i.zero, i.size, i.bytes)) = some (some (.int .i64 0), 1, 8) := by kernel_rfl

theorem wrapSmall (n : Int) (h0 : 0 ≤ n) (h1 : n < 9223372036854775808) : IntKind.i64.wrap n = n := by rw [IntKind.wrap_i64]; omega

/-- n integers behind block b that may be written. -/
structure OwnF (W : World) (b n : Nat) (N : Nat → Int) : Prop where
  ints : IntsF W b n N
  free : ∀ k, k < n → W.frozen? ⟨b, k, none⟩ = false

theorem OwnF.set {W : World} {b n : Nat} {N : Nat → Int} (h : OwnF W b n N) (k : Nat) (z : Int) : OwnF (W.setCell ⟨b, k, none⟩ (.int .i64 z)) b n (fun i => if i = k then z else N i) := by
  refine ⟨fun i hi => ?_, fun i hi => by simpa using h.free i hi⟩
  by_cases e : i = k
  · subst e; simp only [if_true]; exact World.cell?_setCell_same _ _ _ (h.ints i hi)
  · simp only [e, if_false]; exact set_far (h.ints i hi) (by intro x; cases x; exact e rfl)
theorem OwnF.congr {W : World} {b n : Nat} {N N' : Nat → Int} (h : OwnF W b n N) (e : ∀ k, k < n → N k = N' k) : OwnF W b n N' := ⟨fun k hk => by rw [← e k hk]; exact h.ints k hk, h.free⟩
theorem OwnF.keep {W W' : World} {b n : Nat} {N : Nat → Int} (h : OwnF W b n N) (hB : Below W.heap.size W W') : OwnF W' b n N :=
  ⟨h.ints.keep hB, fun k hk => (hB.frozen (p := ⟨b, k, none⟩) (World.block_lt_of_cell? W _ (h.ints k hk))).trans (h.free k hk)⟩
theorem OwnF.of {W : World} {base b n cap : Nat} {e : TypeId} {xs : List Value} (h : W.ownsRow base e 1 (.slice (some ⟨b, 0, none⟩) n cap) n xs) (z : Int) (hx : ∀ (k : Nat) (v : Value), xs[k]? = some v → v = .int .i64 z) : OwnF W b n (fun _ => z) := by
  refine ⟨fun k hk => ?_, fun k _ => h.frozenAt k⟩
  have hl : xs.length = n * 1 := h.1
  rw [h.cellAt k (by omega)]
  obtain ⟨v, hv⟩ : ∃ v, xs[k]? = some v := ⟨_, List.getElem?_eq_getElem (by omega)⟩
  rw [hv, hx k v hv]

set_option maxHeartbeats 4000000 in
theorem build_fn (g n cap : Nat) (V : Nat → Int) (w : World) (h : IntsF w g n V) (hn : n ≤ 8192) :
    Calls Try.prog 19 #[.slice (some ⟨g, 0, none⟩) n cap] w fun e w' => ∃ (p b : Nat) (N : Nat → Int), e = .returned (.tuple #[.int .i64 p, .slice (some ⟨b, 0, none⟩) ((2 * p : Nat)) ((2 * p : Nat))]) ∧ Tree p N ∧ n ≤ p ∧ p ≤ 65536 ∧ IntsF w' b (2 * p) N ∧ (∀ k, k < n → N (p + k) = V k) ∧ w.heap.size ≤ b ∧ b < w'.heap.size ∧ Below w.heap.size w w' := by
  obtain ⟨i0, hi, hz0, hz1, hz2⟩ := info_parts Try.info2
  go_enter Try.func19, Try.ntmps19
  go_wp2_with fail
  go_loopw [4] (fun vp wr => ∃ p : Nat, vp = .int .i64 p ∧ 1 ≤ p ∧ (∃ e, p = 2 ^ e) ∧ p ≤ 16384 ∧ wr = w) (fun vp _ => 16384 - (intOf vp).toNat)
  case atStart => exact ⟨1, rfl, Nat.le_refl _, ⟨0, rfl⟩, by omega, rfl⟩
  case round =>
    obtain ⟨p, rfl, hp1, hpe, hp2, hwr⟩ := hrel
    have hwr2 := hwr.symm
    subst hwr2
    have HPE : Hid _ := hpe
    clear hpe
    by_cases hlt : p < n
    · go_wp2_with fail
      exact ⟨⟨p * 2, by go_num, by omega, by obtain ⟨e, he⟩ := HPE.out; exact ⟨e + 1, by rw [he, Nat.pow_succ]⟩, by omega, trivial⟩, by simp [intOf]; omega⟩
    · go_wp2_with (at_make; refine wpList_make_full _ rfl _ _ 23 rfl w.heap.size 2 i0 _ 1 Try.underlying23 hi hz0 hz1 _ _ _ _ (2 * p) rfl rfl (by go_num) (by go_num) (by rw [hz2]; omega) (by simp [maxLen]; omega) (Nat.le_refl _) ?_; intro w1 hown hgrow)
      have hB1 : Below w.heap.size w w1 := (Below.refl _ w).grown hgrow (Nat.le_refl _) (fun k e => by cases e)
      have hO1 : OwnF w1 w.heap.size (2 * p) (fun _ => 0) := OwnF.of hown 0 (fun k v hv => by
        have := List.mem_of_getElem? hv
        simp only [Value.cells, Nat.mul_one] at this
        rw [show (madeCells #[Value.int .i64 0] (2 * p)).toList = List.replicate (2 * p) (.int .i64 0) from toList_madeCells_one _ _] at this
        exact List.eq_of_mem_replicate this)
      have hbl : w.heap.size < w1.heap.size := World.block_lt_of_cell? w1 _ (hO1.ints 0 (by omega))
      have H : Hid _ := h
      clear hown hgrow hi hz0 hz1 hz2 h
      go_loopw [6] (fun vk wr => ∃ (k : Nat) (N : Nat → Int), vk = .int .i64 k ∧ k ≤ 2 * p ∧ OwnF wr w.heap.size (2 * p) N ∧ w.heap.size < wr.heap.size ∧ Below w.heap.size w wr) (fun vk _ => 2 * p - (intOf vk).toNat)
      case atStart => exact ⟨0, _, rfl, Nat.zero_le _, hO1, hbl, hB1⟩
      case round =>
        clear hO1 hB1 hbl
        obtain ⟨k, N, rfl, hk, hO, hbl, hB⟩ := hrel
        by_cases hlt2 : k < 2 * p
        · have ck := hO.ints k hlt2
          have fk := hO.free k hlt2
          have hO2 := hO.set k (-9223372036854775808)
          have hB2 := hB.setCell (p := ⟨w.heap.size, k, none⟩) (Nat.le_refl _) (.int .i64 (-9223372036854775808))
          have hbl2 : w.heap.size < (wr.setCell ⟨w.heap.size, k, none⟩ (.int .i64 (-9223372036854775808))).heap.size := World.block_lt_of_cell? _ _ (hO2.ints k hlt2)
          have HO2 : Hid _ := hO2
          have HB2 : Hid _ := hB2
          have HL2 : Hid _ := hbl2
          clear hO2 hB2 hbl2
          go_wp2_with fail
          exact ⟨⟨k + 1, _, by go_num, by omega, HO2.out, HL2.out, HB2.out⟩, by simp [intOf]; omega⟩
        · go_wp2_with fail
          go_loopw [7] (fun vk wr => ∃ (k : Nat) (N : Nat → Int), vk = .int .i64 k ∧ k ≤ n ∧ OwnF wr w.heap.size (2 * p) N ∧ (∀ j, j < k → N (p + j) = V j) ∧ w.heap.size < wr.heap.size ∧ Below w.heap.size w wr) (fun vk _ => n - (intOf vk).toNat)
          case atStart => exact ⟨0, N, rfl, Nat.zero_le _, hO, fun j hj => by omega, hbl, hB⟩
          case round =>
            clear hO hB hbl
            obtain ⟨m, M, rfl, hm, hO, hV, hbl, hB⟩ := hrel
            have HV : Hid _ := hV
            clear hV
            by_cases hlt3 : m < n
            · have cs := cell_keep hB (H.out m hlt3)
              have ck := hO.ints (p + m) (by omega)
              have fk := hO.free (p + m) (by omega)
              have hO2 := hO.set (p + m) (V m)
              have hB2 := hB.setCell (p := ⟨w.heap.size, p + m, none⟩) (Nat.le_refl _) (.int .i64 (V m))
              have hbl2 : w.heap.size < (wr.setCell ⟨w.heap.size, p + m, none⟩ (.int .i64 (V m))).heap.size := World.block_lt_of_cell? _ _ (hO2.ints (p + m) (by omega))
              have HO2 : Hid _ := hO2
              have HB2 : Hid _ := hB2
              have HL2 : Hid _ := hbl2
              clear hO2 hB2 hbl2
              go_wp2_with fail
              refine ⟨⟨m + 1, _, by go_num, by omega, HO2.out, fun j hj => ?_, HL2.out, HB2.out⟩, by simp [intOf]; omega⟩
              by_cases e : j = m
              · subst e; simp
              · rw [if_neg (by omega)]; exact HV.out j (by omega)
            · obtain rfl : m = n := by omega
              go_wp2_with fail
              go_loopw [8] (fun vk wr => ∃ (k : Nat) (N : Nat → Int), vk = .int .i64 k ∧ k < p ∧ OwnF wr w.heap.size (2 * p) N ∧ (∀ j, j < m → N (p + j) = V j) ∧ (∀ q, k < q → q < p → N q = max (N (2 * q)) (N (2 * q + 1))) ∧ w.heap.size < wr.heap.size ∧ Below w.heap.size w wr) (fun vk _ => (intOf vk).toNat)
              case atStart => exact ⟨p - 1, M, by go_num, by omega, hO, HV.out, fun q h1 h2 => by omega, hbl, hB⟩
              case round =>
                clear hO hB hbl HV
                obtain ⟨k2, M2, rfl, hk2, hO, hV, hT, hbl, hB⟩ := hrel
                have HV : Hid _ := hV
                have HT : Hid _ := hT
                clear hV hT
                by_cases hk0 : 1 ≤ k2
                · have ca := hO.ints (2 * k2) (by omega)
                  have cb := hO.ints (2 * k2 + 1) (by omega)
                  have ck := hO.ints k2 (by omega)
                  have fk := hO.free k2 (by omega)
                  have hO2 := hO.set k2 (max (M2 (2 * k2)) (M2 (2 * k2 + 1)))
                  have hB2 := hB.setCell (p := ⟨w.heap.size, k2, none⟩) (Nat.le_refl _) (.int .i64 (max (M2 (2 * k2)) (M2 (2 * k2 + 1))))
                  have hbl2 : w.heap.size < (wr.setCell ⟨w.heap.size, k2, none⟩ (.int .i64 (max (M2 (2 * k2)) (M2 (2 * k2 + 1))))).heap.size := World.block_lt_of_cell? _ _ (hO2.ints k2 (by omega))
                  have HO2 : Hid _ := hO2
                  have HB2 : Hid _ := hB2
                  have HL2 : Hid _ := hbl2
                  clear hO2 hB2 hbl2
                  have km : ∀ w', Calls Try.prog 11 #[.int .i64 (M2 (2 * k2)), .int .i64 (M2 (2 * k2 + 1))] w' fun e w'' => e = .returned (.int .i64 (max (M2 (2 * k2)) (M2 (2 * k2 + 1)))) ∧ w'' = w' := fun w' => max64_any _ _ w'
                  obtain ⟨mx, hmx⟩ : ∃ mx, mx = max (M2 (2 * k2)) (M2 (2 * k2 + 1)) := ⟨_, rfl⟩
                  rw [← hmx] at HO2 HB2 HL2 km
                  have KM : Hid _ := km
                  have HMX : Hid _ := hmx
                  clear km hmx
                  go_wp2_with fail
                  have b1 : (2 : Int) * (k2 : Int) < 2 * (p : Int) := by omega
                  have b2 : (2 : Int) * (k2 : Int) + 1 < 2 * (p : Int) := by omega
                  have b3 : (k2 : Int) < 2 * (p : Int) := by omega
                  have b4 : (0 : Int) ≤ 2 * (k2 : Int) := by omega
                  have b5 : (0 : Int) ≤ 2 * (k2 : Int) + 1 := by omega
                  have b6 : (0 : Int) ≤ (k2 : Int) := by omega
                  have b7 : (2 * (k2 : Int)).toNat = 2 * k2 := by omega
                  have b8 : (2 * (k2 : Int) + 1).toNat = 2 * k2 + 1 := by omega
                  have w1' := wrapSmall (2 * (k2 : Int)) (by omega) (by omega)
                  have w2' := wrapSmall (2 * (k2 : Int) + 1) (by omega) (by omega)
                  go_region_with (go_at_call 11; refine (KM.out _).mono ?_; rintro e w' ⟨rfl, rfl⟩)
                  all_goals
                    go_wp2_with fail
                    refine ⟨⟨k2 - 1, _, by go_num, by omega, HO2.out.keep (Below.refl _ _).drew, fun j hj => ?_, fun q q1 q2 => ?_, HL2.out, HB2.out.drew⟩, by simp [intOf]; omega⟩
                    · rw [if_neg (by omega)]; exact HV.out j hj
                    · rw [if_neg (show ¬ 2 * q = k2 from by omega), if_neg (show ¬ 2 * q + 1 = k2 from by omega)]
                      by_cases e : q = k2
                      · rw [if_pos e, e]; exact HMX.out
                      · rw [if_neg e]; exact HT.out q (by omega) q2
                · obtain rfl : k2 = 0 := by omega
                  go_wp2_with fail
                  go_returns
                  exact ⟨p, w.heap.size, M2, rfl, ⟨HPE.out, fun q q1 q2 => HT.out q (by omega) q2⟩, by omega, by omega, hO.ints, HV.out, Nat.le_refl _, hbl, hB⟩
end Go.Proofs.Qxb6609392a
