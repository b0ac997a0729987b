/-
  FnPackSeqsGreedyFrames: the walk.
-/
import Derived.Test.Qxb6609287aPackMsgs
namespace Go.Proofs.Qxb6609287a
open Go.RowKit Go.Shelf

theorem used_bound (c : List Top) (h : ∀ x ∈ c, x.s.size ≤ 1048576) : used c ≤ 10 + c.length * 1048593 := by
  induction c using snoc_ind with
  | h0 => simp [used_nil]
  | h1 c x ih =>
    rw [used_snoc]
    have h1 := ih fun y hy => h y (by simp [hy])
    have h2 := h x (by simp)
    simp only [Top.sz, List.length_append, List.length_cons, List.length_nil]
    omega

theorem greedy_plain (xs : List Top) (i : Nat) (m : List Top) (h : (packs xs)[i]? = some m) : (0 < i → 0 < m.length) ∧ (used m ≤ 262144 ∨ m.length ≤ 1) ∧
    (i + 1 < (packs xs).length → ∃ x, xs[cnt (packs xs) (i + 1)]? = some x ∧ 262144 < used m + x.sz) := by
  refine ⟨fun hi => ?_, packs_fit xs m (List.mem_of_getElem? h), fun hi => ?_⟩
  · obtain ⟨j, rfl⟩ : ∃ j, i = j + 1 := ⟨i - 1, by omega⟩
    have hlt := (List.getElem?_eq_some_iff.1 h).1
    obtain ⟨x, r, rfl, _⟩ := packs_greedy xs j _ m (List.getElem?_eq_getElem (by omega)) h
    simp
  · obtain ⟨x, r, hx, hu⟩ := packs_greedy xs i m _ h (List.getElem?_eq_getElem hi)
    refine ⟨x, ?_, hu⟩
    have := cnt_at (ms := packs xs) (k := i + 1) (j := 0) (List.getElem?_eq_getElem hi) (x := x) (by rw [hx]; rfl)
    rwa [packs_flat] at this

theorem head_plain (xs : List Top) : (xs = [] ∧ (packs xs)[0]? = some []) ∨ ∃ x m, xs[0]? = some x ∧ (packs xs)[0]? = some m ∧ (m.length = 0 ∧ 262144 < 10 + x.sz ∨ 0 < m.length ∧ 10 + x.sz ≤ 262144) := by
  match xs with
  | [] => exact .inl ⟨rfl, rfl⟩
  | x :: xs =>
    rcases packs_head x xs with ⟨h1, h2⟩ | ⟨⟨r, h1⟩, h2⟩
    · exact .inr ⟨x, [], rfl, h1, .inl ⟨rfl, h2⟩⟩
    · exact .inr ⟨x, _, rfl, h1, .inr ⟨by simp, by omega⟩⟩

set_option maxRecDepth 100000 in
set_option maxHeartbeats 4000000 in
theorem greedy_any (ao : Option Addr) (cap : Nat) (xs : List Top) (w : World) (h : SrcTS w ao xs) (hlc : xs.length ≤ cap) (hcm : cap ≤ maxLen) (hs : ∀ x ∈ xs, x.s.size ≤ maxLen) :
    Calls Try.prog 7 #[.slice ao xs.length cap] w fun e w' => e = .returned (.bool true) ∧ Below w.heap.size w w' := by
  go_enter Try.func7, Try.ntmps7
  go_wp2_with fail
  refine (zzBytes17_any ao cap xs w h (by omega) hs).mono ?_
  rintro e w' ⟨⟨b, rfl⟩, rfl⟩
  cases b with
  | false =>
    go_wp2
    go_ret
    exact ⟨rfl, Below.refl _ _⟩
  | true =>
    go_wp2_with fail
    refine (tsBytes_any ao cap xs w' h (by omega) hs).mono ?_
    rintro e w'' ⟨⟨r, rfl, hr⟩, rfl⟩
    by_cases hrr : (1048576 : Int) < r
    · clear hr
      go_wp2
      go_ret
      exact ⟨rfl, Below.refl _ _⟩
    · obtain ⟨hlen, hsz⟩ := hr (by omega)
      clear hr hs
      go_wp2_with fail
      refine (toWire2 ao cap xs w'' h hlen).mono ?_
      rintro e w1 ⟨rfl, r1, B1⟩
      go_wp2_with fail
      refine (zzPack2 _ _ xs w1 r1 hsz hlen).mono ?_
      rintro e w2 ⟨gf, cf, gl, cl, rfl, o2, B2⟩
      have B12 := below_trans B1 B2
      have s2 := h.keep B12
      clear r1 B1 B2
      have hp1 := packs_pos xs
      have hp3 := packs_len xs
      have HG : Hid _ := greedy_plain xs
      have HH : Hid _ := head_plain xs
      have hfl := packs_flat xs
      generalize packs xs = F at *
      have HFL : Hid _ := hfl
      have h40 : F.length ≤ 40000 := by omega
      have hne : ((F.length : Int) == 0) = false := by rw [beq_eq_false_iff_ne]; omega
      go_wp2_with fail
      refine (onlyLast2 o2 h40).mono ?_
      rintro e w5 ⟨rfl, rfl⟩
      clear hne
      go_wp2_with fail
      refine (carries2 o2 xs hfl ao cap s2 h40 hlen).mono ?_
      rintro e w6 ⟨rfl, B6⟩
      have MF : Hid (MsgsAt w6 gf F) := o2.msgs.keep B6
      have S6 : Hid (SrcTS w6 ao xs) := s2.keep B6
      have B16 := below_trans B12 B6
      clear o2 s2 B12 B6 hfl
      have hcF : ∀ n, cnt F n ≤ xs.length := fun n => by have := cnt_le F n; rwa [HFL.out] at this
      have HCF : Hid _ := hcF
      have HAT : Hid (∀ (n : Nat) (m : List Top) (q : Nat) (x : Top), F[n]? = some m → m[q]? = some x → xs[cnt F n + q]? = some x) := fun n m q x h1 h2 => by
        have := cnt_at h1 h2
        rwa [HFL.out] at this
      clear hcF
      rcases HH.out with ⟨hx0, hm0⟩ | ⟨x0, m0, hx0, hm0, hd0⟩
      · obtain ⟨fa, fc, hf1, _⟩ := MF.out 0 _ hm0
        have hne : ((xs.length : Int) == 0) = true := by rw [hx0]; rfl
        clear hx0 hm0 HH
        have MX : Hid (MsgsAt w6 gf F) := MF.out
        have SX : Hid (SrcTS w6 ao xs) := S6.out
        have BX := B16
        clear MF S6 B16
        go_wp2_with fail
        obtain ⟨wX, hwX⟩ : ∃ wX, wX = w6 := ⟨_, rfl⟩
        subst hwX
        clear hf1 hne
        go_loopw [6, 7] (fun st i wr => ∃ n cc : Nat, n ≤ F.length ∧ i = .int .i64 n ∧ st = .int .i64 cc ∧ cc = cnt F n ∧ Below wX.heap.size wX wr) (fun _ i _ => F.length - (intOf i).toNat)
        case atStart => exact ⟨0, 0, Nat.zero_le _, rfl, rfl, rfl, Below.refl _ _⟩
        case round =>
          obtain ⟨n, cc, hn, rfl, rfl, hcc, hB⟩ := hrel
          have hcl := HCF.out n
          rw [← hcc] at hcl
          by_cases hlt : n < F.length
          · obtain ⟨m, hm⟩ : ∃ m, F[n]? = some m := ⟨_, List.getElem?_eq_getElem hlt⟩
            obtain ⟨hg1, hg2, hg3⟩ := HG.out n m hm
            have hcs := cnt_succ hm
            have hcl2 := HCF.out (n + 1)
            have HA2 : Hid (∀ (q : Nat) (x : Top), m[q]? = some x → xs[cc + q]? = some x) := fun q x h2 => by rw [hcc]; exact HAT.out n m q x hm h2
            rw [hcs, ← hcc] at hcl2 hg3
            rw [← hcc] at hcs
            have HCS : Hid _ := hcs
            have HG3 : Hid _ := hg3
            have HG2 : Hid _ := hg2
            obtain ⟨fa, fc, hf1, _⟩ := MX.out n m hm
            have f1 := cell_keep hB hf1
            clear hcs hg3 hg2 hm hcc
            have hm32 : m.length ≤ 32768 := by omega
            rcases Nat.eq_zero_or_pos n with rfl | hn0
            · rw [show ((0 : Nat) : Int) = 0 from rfl]
              clear hg1
              go_wp2_with fail
              go_loopw [8, 9] (fun us j wr => ∃ q U : Nat, q ≤ m.length ∧ j = .int .i64 q ∧ us = .int .i64 U ∧ U = used (m.take q) ∧ Below wX.heap.size wX wr) (fun _ j _ => m.length - (intOf j).toNat)
              case atStart => exact ⟨0, 10, Nat.zero_le _, rfl, rfl, rfl, hB⟩
              case round =>
                obtain ⟨q, U, hq, rfl, rfl, hU, hB2⟩ := hrel
                have hUb : U ≤ 34360295434 := by
                  rw [hU]
                  have hb := used_bound (m.take q) fun x hx => by
                    obtain ⟨i, hi⟩ := List.mem_iff_getElem?.1 (List.mem_of_mem_take hx)
                    exact hsz x (List.mem_of_getElem? (HA2.out i x hi))
                  have : (m.take q).length ≤ 32768 := by rw [List.length_take]; omega
                  omega
                have ff := cell_keep hB2 hf1
                clear f1
                by_cases hqlt : q < m.length
                · obtain ⟨x, hx⟩ : ∃ x, m[q]? = some x := ⟨_, List.getElem?_eq_getElem hqlt⟩
                  have hxx := HA2.out q x hx
                  have hxl : x.s.size ≤ 1048576 := hsz x (List.mem_of_getElem? hxx)
                  have hxz : x.sz ≤ 1048593 := by unfold Top.sz; omega
                  have hix : cc + q < xs.length := (List.getElem?_eq_some_iff.1 hxx).1
                  obtain ⟨b, o, hao, t0, t1, t2⟩ := SrcTS.at SX.out hB2 hxx
                  have HUS : Hid (used (m.take (q + 1)) = U + x.sz) := by rw [hU, ← used_snoc, (take_snoc_at hx).2]; rfl
                  clear hxx hx hU
                  cases hao
                  go_wp2_with fail
                  refine (seqSize_any x wr hxl).mono ?_
                  rintro e w9 ⟨rfl, c9, hw9⟩
                  have b9 : Below wX.heap.size wX w9 := by rw [hw9]; exact hB2.alloc hB2.size _
                  clear hw9
                  go_wp2_with fail
                  exact ⟨⟨q + 1, U + x.sz, by omega, by go_num, by go_num, HUS.out.symm, b9⟩, by simp [intOf]; omega⟩
                · obtain rfl : q = m.length := by omega
                  rw [List.take_length] at hU
                  have HU : Hid _ := hU
                  clear hU
                  have hfit : U ≤ 262144 ∨ m.length ≤ 1 := by rw [HU.out]; exact HG2.out
                  by_cases hlast : 0 + 1 < F.length
                  · obtain ⟨x, hxx, hux⟩ := HG3.out hlast
                    rw [← HU.out] at hux
                    have hxl : x.s.size ≤ 1048576 := hsz x (List.mem_of_getElem? hxx)
                    have hxz : x.sz ≤ 1048593 := by unfold Top.sz; omega
                    have hix : cc + m.length < xs.length := (List.getElem?_eq_some_iff.1 hxx).1
                    obtain ⟨b, o, hao, t0, t1, t2⟩ := SrcTS.at SX.out hB2 hxx
                    clear hxx
                    cases hao
                    by_cases hu : U ≤ 262144
                    · clear hfit
                      go_wp2_with fail
                      refine (seqSize_any x wr hxl).mono ?_
                      rintro e w9 ⟨rfl, c9, hw9⟩
                      have b9 : Below wX.heap.size wX w9 := by rw [hw9]; exact hB2.alloc hB2.size _
                      clear hw9
                      go_wp2_with fail
                      exact ⟨⟨0 + 1, cc + m.length, by omega, by go_num, by go_num, HCS.out.symm, b9⟩, by simp [intOf]; omega⟩
                    · have hfit' : m.length ≤ 1 := by omega
                      clear hfit
                      go_wp2_with fail
                      refine (seqSize_any x wr hxl).mono ?_
                      rintro e w9 ⟨rfl, c9, hw9⟩
                      have b9 : Below wX.heap.size wX w9 := by rw [hw9]; exact hB2.alloc hB2.size _
                      clear hw9
                      go_wp2_with fail
                      exact ⟨⟨0 + 1, cc + m.length, by omega, by go_num, by go_num, HCS.out.symm, b9⟩, by simp [intOf]; omega⟩
                  · by_cases hu : U ≤ 262144
                    · clear hfit
                      go_wp2_with fail
                      exact ⟨⟨0 + 1, cc + m.length, by omega, by go_num, by go_num, HCS.out.symm, hB2⟩, by simp [intOf]; omega⟩
                    · have hfit' : m.length ≤ 1 := by omega
                      clear hfit
                      go_wp2_with fail
                      exact ⟨⟨0 + 1, cc + m.length, by omega, by go_num, by go_num, HCS.out.symm, hB2⟩, by simp [intOf]; omega⟩
            · have hh : ((m.length : Int) == 0) = false := by { rw [beq_eq_false_iff_ne]; have := hg1 hn0; omega }
              clear hg1
              go_wp2_with fail
              go_loopw [8, 9] (fun us j wr => ∃ q U : Nat, q ≤ m.length ∧ j = .int .i64 q ∧ us = .int .i64 U ∧ U = used (m.take q) ∧ Below wX.heap.size wX wr) (fun _ j _ => m.length - (intOf j).toNat)
              case atStart => exact ⟨0, 10, Nat.zero_le _, rfl, rfl, rfl, hB⟩
              case round =>
                obtain ⟨q, U, hq, rfl, rfl, hU, hB2⟩ := hrel
                have hUb : U ≤ 34360295434 := by
                  rw [hU]
                  have hb := used_bound (m.take q) fun x hx => by
                    obtain ⟨i, hi⟩ := List.mem_iff_getElem?.1 (List.mem_of_mem_take hx)
                    exact hsz x (List.mem_of_getElem? (HA2.out i x hi))
                  have : (m.take q).length ≤ 32768 := by rw [List.length_take]; omega
                  omega
                have ff := cell_keep hB2 hf1
                clear f1
                by_cases hqlt : q < m.length
                · obtain ⟨x, hx⟩ : ∃ x, m[q]? = some x := ⟨_, List.getElem?_eq_getElem hqlt⟩
                  have hxx := HA2.out q x hx
                  have hxl : x.s.size ≤ 1048576 := hsz x (List.mem_of_getElem? hxx)
                  have hxz : x.sz ≤ 1048593 := by unfold Top.sz; omega
                  have hix : cc + q < xs.length := (List.getElem?_eq_some_iff.1 hxx).1
                  obtain ⟨b, o, hao, t0, t1, t2⟩ := SrcTS.at SX.out hB2 hxx
                  have HUS : Hid (used (m.take (q + 1)) = U + x.sz) := by rw [hU, ← used_snoc, (take_snoc_at hx).2]; rfl
                  clear hxx hx hU
                  cases hao
                  go_wp2_with fail
                  refine (seqSize_any x wr hxl).mono ?_
                  rintro e w9 ⟨rfl, c9, hw9⟩
                  have b9 : Below wX.heap.size wX w9 := by rw [hw9]; exact hB2.alloc hB2.size _
                  clear hw9
                  go_wp2_with fail
                  exact ⟨⟨q + 1, U + x.sz, by omega, by go_num, by go_num, HUS.out.symm, b9⟩, by simp [intOf]; omega⟩
                · obtain rfl : q = m.length := by omega
                  rw [List.take_length] at hU
                  have HU : Hid _ := hU
                  clear hU
                  have hfit : U ≤ 262144 ∨ m.length ≤ 1 := by rw [HU.out]; exact HG2.out
                  by_cases hlast : n + 1 < F.length
                  · obtain ⟨x, hxx, hux⟩ := HG3.out hlast
                    rw [← HU.out] at hux
                    have hxl : x.s.size ≤ 1048576 := hsz x (List.mem_of_getElem? hxx)
                    have hxz : x.sz ≤ 1048593 := by unfold Top.sz; omega
                    have hix : cc + m.length < xs.length := (List.getElem?_eq_some_iff.1 hxx).1
                    obtain ⟨b, o, hao, t0, t1, t2⟩ := SrcTS.at SX.out hB2 hxx
                    clear hxx
                    cases hao
                    by_cases hu : U ≤ 262144
                    · clear hfit
                      go_wp2_with fail
                      refine (seqSize_any x wr hxl).mono ?_
                      rintro e w9 ⟨rfl, c9, hw9⟩
                      have b9 : Below wX.heap.size wX w9 := by rw [hw9]; exact hB2.alloc hB2.size _
                      clear hw9
                      go_wp2_with fail
                      exact ⟨⟨n + 1, cc + m.length, by omega, by go_num, by go_num, HCS.out.symm, b9⟩, by simp [intOf]; omega⟩
                    · have hfit' : m.length ≤ 1 := by omega
                      clear hfit
                      go_wp2_with fail
                      refine (seqSize_any x wr hxl).mono ?_
                      rintro e w9 ⟨rfl, c9, hw9⟩
                      have b9 : Below wX.heap.size wX w9 := by rw [hw9]; exact hB2.alloc hB2.size _
                      clear hw9
                      go_wp2_with fail
                      exact ⟨⟨n + 1, cc + m.length, by omega, by go_num, by go_num, HCS.out.symm, b9⟩, by simp [intOf]; omega⟩
                  · by_cases hu : U ≤ 262144
                    · clear hfit
                      go_wp2_with fail
                      exact ⟨⟨n + 1, cc + m.length, by omega, by go_num, by go_num, HCS.out.symm, hB2⟩, by simp [intOf]; omega⟩
                    · have hfit' : m.length ≤ 1 := by omega
                      clear hfit
                      go_wp2_with fail
                      exact ⟨⟨n + 1, cc + m.length, by omega, by go_num, by go_num, HCS.out.symm, hB2⟩, by simp [intOf]; omega⟩
          · obtain rfl : n = F.length := by omega
            clear hcc
            go_wp2
            go_ret
            exact ⟨rfl, below_trans BX hB⟩
      · obtain ⟨fa, fc, hf1, _⟩ := MF.out 0 _ hm0
        obtain ⟨bb, oo, hao, t0, t1, t2⟩ := SrcTS.at S6.out (Below.refl _ _) hx0
        subst hao
        simp only [Nat.zero_mul, Nat.add_zero] at t0 t1 t2
        have hpos : 0 < xs.length := (List.getElem?_eq_some_iff.1 hx0).1
        have hxs0 : x0.sz ≤ 1048593 := by
          have := hsz x0 (List.mem_of_getElem? hx0)
          unfold Top.sz; omega
        have hne : ((xs.length : Int) == 0) = false := by rw [beq_eq_false_iff_ne]; omega
        go_wp2_with fail
        refine (seqSize_any x0 w6 (hsz x0 (List.mem_of_getElem? hx0))).mono ?_
        rintro e wX ⟨rfl, c0, hwX⟩
        have bX : Below w6.heap.size w6 wX := by rw [hwX]; exact (Below.refl _ _).alloc (Nat.le_refl _) _
        clear hwX
        have f1 := cell_keep bX hf1
        have MX : Hid (MsgsAt wX gf F) := MsgsAt.keep MF.out bX
        have SX : Hid (SrcTS wX (some ⟨bb, oo, none⟩) xs) := SrcTS.keep S6.out bX
        have BX := below_trans B16 bX
        clear hx0 hm0 HH MF S6 B16 bX hf1 t0 t1 t2
        rcases hd0 with ⟨hz, hb⟩ | ⟨hz, hb⟩
        · have hy : ((m0.length : Int) == 0) = true := by rw [beq_iff_eq]; omega
          have hy2 : decide ((262144 : Int) < 10 + (x0.sz : Int)) = true := by rw [decide_eq_true_iff]; omega
          go_wp2_with fail
          clear hy hy2 hz hb f1 hxs0 hne hpos
          go_loopw [6, 7] (fun st i wr => ∃ n cc : Nat, n ≤ F.length ∧ i = .int .i64 n ∧ st = .int .i64 cc ∧ cc = cnt F n ∧ Below wX.heap.size wX wr) (fun _ i _ => F.length - (intOf i).toNat)
          case atStart => exact ⟨0, 0, Nat.zero_le _, rfl, rfl, rfl, Below.refl _ _⟩
          case round =>
            obtain ⟨n, cc, hn, rfl, rfl, hcc, hB⟩ := hrel
            have hcl := HCF.out n
            rw [← hcc] at hcl
            by_cases hlt : n < F.length
            · obtain ⟨m, hm⟩ : ∃ m, F[n]? = some m := ⟨_, List.getElem?_eq_getElem hlt⟩
              obtain ⟨hg1, hg2, hg3⟩ := HG.out n m hm
              have hcs := cnt_succ hm
              have hcl2 := HCF.out (n + 1)
              have HA2 : Hid (∀ (q : Nat) (x : Top), m[q]? = some x → xs[cc + q]? = some x) := fun q x h2 => by rw [hcc]; exact HAT.out n m q x hm h2
              rw [hcs, ← hcc] at hcl2 hg3
              rw [← hcc] at hcs
              have HCS : Hid _ := hcs
              have HG3 : Hid _ := hg3
              have HG2 : Hid _ := hg2
              obtain ⟨fa, fc, hf1, _⟩ := MX.out n m hm
              have f1 := cell_keep hB hf1
              clear hcs hg3 hg2 hm hcc
              have hm32 : m.length ≤ 32768 := by omega
              rcases Nat.eq_zero_or_pos n with rfl | hn0
              · rw [show ((0 : Nat) : Int) = 0 from rfl]
                clear hg1
                go_wp2_with fail
                go_loopw [8, 9] (fun us j wr => ∃ q U : Nat, q ≤ m.length ∧ j = .int .i64 q ∧ us = .int .i64 U ∧ U = used (m.take q) ∧ Below wX.heap.size wX wr) (fun _ j _ => m.length - (intOf j).toNat)
                case atStart => exact ⟨0, 10, Nat.zero_le _, rfl, rfl, rfl, hB⟩
                case round =>
                  obtain ⟨q, U, hq, rfl, rfl, hU, hB2⟩ := hrel
                  have hUb : U ≤ 34360295434 := by
                    rw [hU]
                    have hb := used_bound (m.take q) fun x hx => by
                      obtain ⟨i, hi⟩ := List.mem_iff_getElem?.1 (List.mem_of_mem_take hx)
                      exact hsz x (List.mem_of_getElem? (HA2.out i x hi))
                    have : (m.take q).length ≤ 32768 := by rw [List.length_take]; omega
                    omega
                  have ff := cell_keep hB2 hf1
                  clear f1
                  by_cases hqlt : q < m.length
                  · obtain ⟨x, hx⟩ : ∃ x, m[q]? = some x := ⟨_, List.getElem?_eq_getElem hqlt⟩
                    have hxx := HA2.out q x hx
                    have hxl : x.s.size ≤ 1048576 := hsz x (List.mem_of_getElem? hxx)
                    have hxz : x.sz ≤ 1048593 := by unfold Top.sz; omega
                    have hix : cc + q < xs.length := (List.getElem?_eq_some_iff.1 hxx).1
                    obtain ⟨b, o, hao, t0, t1, t2⟩ := SrcTS.at SX.out hB2 hxx
                    have HUS : Hid (used (m.take (q + 1)) = U + x.sz) := by rw [hU, ← used_snoc, (take_snoc_at hx).2]; rfl
                    clear hxx hx hU
                    cases hao
                    go_wp2_with fail
                    refine (seqSize_any x wr hxl).mono ?_
                    rintro e w9 ⟨rfl, c9, hw9⟩
                    have b9 : Below wX.heap.size wX w9 := by rw [hw9]; exact hB2.alloc hB2.size _
                    clear hw9
                    go_wp2_with fail
                    exact ⟨⟨q + 1, U + x.sz, by omega, by go_num, by go_num, HUS.out.symm, b9⟩, by simp [intOf]; omega⟩
                  · obtain rfl : q = m.length := by omega
                    rw [List.take_length] at hU
                    have HU : Hid _ := hU
                    clear hU
                    have hfit : U ≤ 262144 ∨ m.length ≤ 1 := by rw [HU.out]; exact HG2.out
                    by_cases hlast : 0 + 1 < F.length
                    · obtain ⟨x, hxx, hux⟩ := HG3.out hlast
                      rw [← HU.out] at hux
                      have hxl : x.s.size ≤ 1048576 := hsz x (List.mem_of_getElem? hxx)
                      have hxz : x.sz ≤ 1048593 := by unfold Top.sz; omega
                      have hix : cc + m.length < xs.length := (List.getElem?_eq_some_iff.1 hxx).1
                      obtain ⟨b, o, hao, t0, t1, t2⟩ := SrcTS.at SX.out hB2 hxx
                      clear hxx
                      cases hao
                      by_cases hu : U ≤ 262144
                      · clear hfit
                        go_wp2_with fail
                        refine (seqSize_any x wr hxl).mono ?_
                        rintro e w9 ⟨rfl, c9, hw9⟩
                        have b9 : Below wX.heap.size wX w9 := by rw [hw9]; exact hB2.alloc hB2.size _
                        clear hw9
                        go_wp2_with fail
                        exact ⟨⟨0 + 1, cc + m.length, by omega, by go_num, by go_num, HCS.out.symm, b9⟩, by simp [intOf]; omega⟩
                      · have hfit' : m.length ≤ 1 := by omega
                        clear hfit
                        go_wp2_with fail
                        refine (seqSize_any x wr hxl).mono ?_
                        rintro e w9 ⟨rfl, c9, hw9⟩
                        have b9 : Below wX.heap.size wX w9 := by rw [hw9]; exact hB2.alloc hB2.size _
                        clear hw9
                        go_wp2_with fail
                        exact ⟨⟨0 + 1, cc + m.length, by omega, by go_num, by go_num, HCS.out.symm, b9⟩, by simp [intOf]; omega⟩
                    · by_cases hu : U ≤ 262144
                      · clear hfit
                        go_wp2_with fail
                        exact ⟨⟨0 + 1, cc + m.length, by omega, by go_num, by go_num, HCS.out.symm, hB2⟩, by simp [intOf]; omega⟩
                      · have hfit' : m.length ≤ 1 := by omega
                        clear hfit
                        go_wp2_with fail
                        exact ⟨⟨0 + 1, cc + m.length, by omega, by go_num, by go_num, HCS.out.symm, hB2⟩, by simp [intOf]; omega⟩
              · have hh : ((m.length : Int) == 0) = false := by { rw [beq_eq_false_iff_ne]; have := hg1 hn0; omega }
                clear hg1
                go_wp2_with fail
                go_loopw [8, 9] (fun us j wr => ∃ q U : Nat, q ≤ m.length ∧ j = .int .i64 q ∧ us = .int .i64 U ∧ U = used (m.take q) ∧ Below wX.heap.size wX wr) (fun _ j _ => m.length - (intOf j).toNat)
                case atStart => exact ⟨0, 10, Nat.zero_le _, rfl, rfl, rfl, hB⟩
                case round =>
                  obtain ⟨q, U, hq, rfl, rfl, hU, hB2⟩ := hrel
                  have hUb : U ≤ 34360295434 := by
                    rw [hU]
                    have hb := used_bound (m.take q) fun x hx => by
                      obtain ⟨i, hi⟩ := List.mem_iff_getElem?.1 (List.mem_of_mem_take hx)
                      exact hsz x (List.mem_of_getElem? (HA2.out i x hi))
                    have : (m.take q).length ≤ 32768 := by rw [List.length_take]; omega
                    omega
                  have ff := cell_keep hB2 hf1
                  clear f1
                  by_cases hqlt : q < m.length
                  · obtain ⟨x, hx⟩ : ∃ x, m[q]? = some x := ⟨_, List.getElem?_eq_getElem hqlt⟩
                    have hxx := HA2.out q x hx
                    have hxl : x.s.size ≤ 1048576 := hsz x (List.mem_of_getElem? hxx)
                    have hxz : x.sz ≤ 1048593 := by unfold Top.sz; omega
                    have hix : cc + q < xs.length := (List.getElem?_eq_some_iff.1 hxx).1
                    obtain ⟨b, o, hao, t0, t1, t2⟩ := SrcTS.at SX.out hB2 hxx
                    have HUS : Hid (used (m.take (q + 1)) = U + x.sz) := by rw [hU, ← used_snoc, (take_snoc_at hx).2]; rfl
                    clear hxx hx hU
                    cases hao
                    go_wp2_with fail
                    refine (seqSize_any x wr hxl).mono ?_
                    rintro e w9 ⟨rfl, c9, hw9⟩
                    have b9 : Below wX.heap.size wX w9 := by rw [hw9]; exact hB2.alloc hB2.size _
                    clear hw9
                    go_wp2_with fail
                    exact ⟨⟨q + 1, U + x.sz, by omega, by go_num, by go_num, HUS.out.symm, b9⟩, by simp [intOf]; omega⟩
                  · obtain rfl : q = m.length := by omega
                    rw [List.take_length] at hU
                    have HU : Hid _ := hU
                    clear hU
                    have hfit : U ≤ 262144 ∨ m.length ≤ 1 := by rw [HU.out]; exact HG2.out
                    by_cases hlast : n + 1 < F.length
                    · obtain ⟨x, hxx, hux⟩ := HG3.out hlast
                      rw [← HU.out] at hux
                      have hxl : x.s.size ≤ 1048576 := hsz x (List.mem_of_getElem? hxx)
                      have hxz : x.sz ≤ 1048593 := by unfold Top.sz; omega
                      have hix : cc + m.length < xs.length := (List.getElem?_eq_some_iff.1 hxx).1
                      obtain ⟨b, o, hao, t0, t1, t2⟩ := SrcTS.at SX.out hB2 hxx
                      clear hxx
                      cases hao
                      by_cases hu : U ≤ 262144
                      · clear hfit
                        go_wp2_with fail
                        refine (seqSize_any x wr hxl).mono ?_
                        rintro e w9 ⟨rfl, c9, hw9⟩
                        have b9 : Below wX.heap.size wX w9 := by rw [hw9]; exact hB2.alloc hB2.size _
                        clear hw9
                        go_wp2_with fail
                        exact ⟨⟨n + 1, cc + m.length, by omega, by go_num, by go_num, HCS.out.symm, b9⟩, by simp [intOf]; omega⟩
                      · have hfit' : m.length ≤ 1 := by omega
                        clear hfit
                        go_wp2_with fail
                        refine (seqSize_any x wr hxl).mono ?_
                        rintro e w9 ⟨rfl, c9, hw9⟩
                        have b9 : Below wX.heap.size wX w9 := by rw [hw9]; exact hB2.alloc hB2.size _
                        clear hw9
                        go_wp2_with fail
                        exact ⟨⟨n + 1, cc + m.length, by omega, by go_num, by go_num, HCS.out.symm, b9⟩, by simp [intOf]; omega⟩
                    · by_cases hu : U ≤ 262144
                      · clear hfit
                        go_wp2_with fail
                        exact ⟨⟨n + 1, cc + m.length, by omega, by go_num, by go_num, HCS.out.symm, hB2⟩, by simp [intOf]; omega⟩
                      · have hfit' : m.length ≤ 1 := by omega
                        clear hfit
                        go_wp2_with fail
                        exact ⟨⟨n + 1, cc + m.length, by omega, by go_num, by go_num, HCS.out.symm, hB2⟩, by simp [intOf]; omega⟩
            · obtain rfl : n = F.length := by omega
              clear hcc
              go_wp2
              go_ret
              exact ⟨rfl, below_trans BX hB⟩
        · have hy : ((m0.length : Int) == 0) = false := by rw [beq_eq_false_iff_ne]; omega
          have hy2 : decide ((262144 : Int) < 10 + (x0.sz : Int)) = false := by rw [decide_eq_false_iff_not]; omega
          go_wp2_with fail
          clear hy hy2 hz hb f1 hxs0 hne hpos
          go_loopw [6, 7] (fun st i wr => ∃ n cc : Nat, n ≤ F.length ∧ i = .int .i64 n ∧ st = .int .i64 cc ∧ cc = cnt F n ∧ Below wX.heap.size wX wr) (fun _ i _ => F.length - (intOf i).toNat)
          case atStart => exact ⟨0, 0, Nat.zero_le _, rfl, rfl, rfl, Below.refl _ _⟩
          case round =>
            obtain ⟨n, cc, hn, rfl, rfl, hcc, hB⟩ := hrel
            have hcl := HCF.out n
            rw [← hcc] at hcl
            by_cases hlt : n < F.length
            · obtain ⟨m, hm⟩ : ∃ m, F[n]? = some m := ⟨_, List.getElem?_eq_getElem hlt⟩
              obtain ⟨hg1, hg2, hg3⟩ := HG.out n m hm
              have hcs := cnt_succ hm
              have hcl2 := HCF.out (n + 1)
              have HA2 : Hid (∀ (q : Nat) (x : Top), m[q]? = some x → xs[cc + q]? = some x) := fun q x h2 => by rw [hcc]; exact HAT.out n m q x hm h2
              rw [hcs, ← hcc] at hcl2 hg3
              rw [← hcc] at hcs
              have HCS : Hid _ := hcs
              have HG3 : Hid _ := hg3
              have HG2 : Hid _ := hg2
              obtain ⟨fa, fc, hf1, _⟩ := MX.out n m hm
              have f1 := cell_keep hB hf1
              clear hcs hg3 hg2 hm hcc
              have hm32 : m.length ≤ 32768 := by omega
              rcases Nat.eq_zero_or_pos n with rfl | hn0
              · rw [show ((0 : Nat) : Int) = 0 from rfl]
                clear hg1
                go_wp2_with fail
                go_loopw [8, 9] (fun us j wr => ∃ q U : Nat, q ≤ m.length ∧ j = .int .i64 q ∧ us = .int .i64 U ∧ U = used (m.take q) ∧ Below wX.heap.size wX wr) (fun _ j _ => m.length - (intOf j).toNat)
                case atStart => exact ⟨0, 10, Nat.zero_le _, rfl, rfl, rfl, hB⟩
                case round =>
                  obtain ⟨q, U, hq, rfl, rfl, hU, hB2⟩ := hrel
                  have hUb : U ≤ 34360295434 := by
                    rw [hU]
                    have hb := used_bound (m.take q) fun x hx => by
                      obtain ⟨i, hi⟩ := List.mem_iff_getElem?.1 (List.mem_of_mem_take hx)
                      exact hsz x (List.mem_of_getElem? (HA2.out i x hi))
                    have : (m.take q).length ≤ 32768 := by rw [List.length_take]; omega
                    omega
                  have ff := cell_keep hB2 hf1
                  clear f1
                  by_cases hqlt : q < m.length
                  · obtain ⟨x, hx⟩ : ∃ x, m[q]? = some x := ⟨_, List.getElem?_eq_getElem hqlt⟩
                    have hxx := HA2.out q x hx
                    have hxl : x.s.size ≤ 1048576 := hsz x (List.mem_of_getElem? hxx)
                    have hxz : x.sz ≤ 1048593 := by unfold Top.sz; omega
                    have hix : cc + q < xs.length := (List.getElem?_eq_some_iff.1 hxx).1
                    obtain ⟨b, o, hao, t0, t1, t2⟩ := SrcTS.at SX.out hB2 hxx
                    have HUS : Hid (used (m.take (q + 1)) = U + x.sz) := by rw [hU, ← used_snoc, (take_snoc_at hx).2]; rfl
                    clear hxx hx hU
                    cases hao
                    go_wp2_with fail
                    refine (seqSize_any x wr hxl).mono ?_
                    rintro e w9 ⟨rfl, c9, hw9⟩
                    have b9 : Below wX.heap.size wX w9 := by rw [hw9]; exact hB2.alloc hB2.size _
                    clear hw9
                    go_wp2_with fail
                    exact ⟨⟨q + 1, U + x.sz, by omega, by go_num, by go_num, HUS.out.symm, b9⟩, by simp [intOf]; omega⟩
                  · obtain rfl : q = m.length := by omega
                    rw [List.take_length] at hU
                    have HU : Hid _ := hU
                    clear hU
                    have hfit : U ≤ 262144 ∨ m.length ≤ 1 := by rw [HU.out]; exact HG2.out
                    by_cases hlast : 0 + 1 < F.length
                    · obtain ⟨x, hxx, hux⟩ := HG3.out hlast
                      rw [← HU.out] at hux
                      have hxl : x.s.size ≤ 1048576 := hsz x (List.mem_of_getElem? hxx)
                      have hxz : x.sz ≤ 1048593 := by unfold Top.sz; omega
                      have hix : cc + m.length < xs.length := (List.getElem?_eq_some_iff.1 hxx).1
                      obtain ⟨b, o, hao, t0, t1, t2⟩ := SrcTS.at SX.out hB2 hxx
                      clear hxx
                      cases hao
                      by_cases hu : U ≤ 262144
                      · clear hfit
                        go_wp2_with fail
                        refine (seqSize_any x wr hxl).mono ?_
                        rintro e w9 ⟨rfl, c9, hw9⟩
                        have b9 : Below wX.heap.size wX w9 := by rw [hw9]; exact hB2.alloc hB2.size _
                        clear hw9
                        go_wp2_with fail
                        exact ⟨⟨0 + 1, cc + m.length, by omega, by go_num, by go_num, HCS.out.symm, b9⟩, by simp [intOf]; omega⟩
                      · have hfit' : m.length ≤ 1 := by omega
                        clear hfit
                        go_wp2_with fail
                        refine (seqSize_any x wr hxl).mono ?_
                        rintro e w9 ⟨rfl, c9, hw9⟩
                        have b9 : Below wX.heap.size wX w9 := by rw [hw9]; exact hB2.alloc hB2.size _
                        clear hw9
                        go_wp2_with fail
                        exact ⟨⟨0 + 1, cc + m.length, by omega, by go_num, by go_num, HCS.out.symm, b9⟩, by simp [intOf]; omega⟩
                    · by_cases hu : U ≤ 262144
                      · clear hfit
                        go_wp2_with fail
                        exact ⟨⟨0 + 1, cc + m.length, by omega, by go_num, by go_num, HCS.out.symm, hB2⟩, by simp [intOf]; omega⟩
                      · have hfit' : m.length ≤ 1 := by omega
                        clear hfit
                        go_wp2_with fail
                        exact ⟨⟨0 + 1, cc + m.length, by omega, by go_num, by go_num, HCS.out.symm, hB2⟩, by simp [intOf]; omega⟩
              · have hh : ((m.length : Int) == 0) = false := by { rw [beq_eq_false_iff_ne]; have := hg1 hn0; omega }
                clear hg1
                go_wp2_with fail
                go_loopw [8, 9] (fun us j wr => ∃ q U : Nat, q ≤ m.length ∧ j = .int .i64 q ∧ us = .int .i64 U ∧ U = used (m.take q) ∧ Below wX.heap.size wX wr) (fun _ j _ => m.length - (intOf j).toNat)
                case atStart => exact ⟨0, 10, Nat.zero_le _, rfl, rfl, rfl, hB⟩
                case round =>
                  obtain ⟨q, U, hq, rfl, rfl, hU, hB2⟩ := hrel
                  have hUb : U ≤ 34360295434 := by
                    rw [hU]
                    have hb := used_bound (m.take q) fun x hx => by
                      obtain ⟨i, hi⟩ := List.mem_iff_getElem?.1 (List.mem_of_mem_take hx)
                      exact hsz x (List.mem_of_getElem? (HA2.out i x hi))
                    have : (m.take q).length ≤ 32768 := by rw [List.length_take]; omega
                    omega
                  have ff := cell_keep hB2 hf1
                  clear f1
                  by_cases hqlt : q < m.length
                  · obtain ⟨x, hx⟩ : ∃ x, m[q]? = some x := ⟨_, List.getElem?_eq_getElem hqlt⟩
                    have hxx := HA2.out q x hx
                    have hxl : x.s.size ≤ 1048576 := hsz x (List.mem_of_getElem? hxx)
                    have hxz : x.sz ≤ 1048593 := by unfold Top.sz; omega
                    have hix : cc + q < xs.length := (List.getElem?_eq_some_iff.1 hxx).1
                    obtain ⟨b, o, hao, t0, t1, t2⟩ := SrcTS.at SX.out hB2 hxx
                    have HUS : Hid (used (m.take (q + 1)) = U + x.sz) := by rw [hU, ← used_snoc, (take_snoc_at hx).2]; rfl
                    clear hxx hx hU
                    cases hao
                    go_wp2_with fail
                    refine (seqSize_any x wr hxl).mono ?_
                    rintro e w9 ⟨rfl, c9, hw9⟩
                    have b9 : Below wX.heap.size wX w9 := by rw [hw9]; exact hB2.alloc hB2.size _
                    clear hw9
                    go_wp2_with fail
                    exact ⟨⟨q + 1, U + x.sz, by omega, by go_num, by go_num, HUS.out.symm, b9⟩, by simp [intOf]; omega⟩
                  · obtain rfl : q = m.length := by omega
                    rw [List.take_length] at hU
                    have HU : Hid _ := hU
                    clear hU
                    have hfit : U ≤ 262144 ∨ m.length ≤ 1 := by rw [HU.out]; exact HG2.out
                    by_cases hlast : n + 1 < F.length
                    · obtain ⟨x, hxx, hux⟩ := HG3.out hlast
                      rw [← HU.out] at hux
                      have hxl : x.s.size ≤ 1048576 := hsz x (List.mem_of_getElem? hxx)
                      have hxz : x.sz ≤ 1048593 := by unfold Top.sz; omega
                      have hix : cc + m.length < xs.length := (List.getElem?_eq_some_iff.1 hxx).1
                      obtain ⟨b, o, hao, t0, t1, t2⟩ := SrcTS.at SX.out hB2 hxx
                      clear hxx
                      cases hao
                      by_cases hu : U ≤ 262144
                      · clear hfit
                        go_wp2_with fail
                        refine (seqSize_any x wr hxl).mono ?_
                        rintro e w9 ⟨rfl, c9, hw9⟩
                        have b9 : Below wX.heap.size wX w9 := by rw [hw9]; exact hB2.alloc hB2.size _
                        clear hw9
                        go_wp2_with fail
                        exact ⟨⟨n + 1, cc + m.length, by omega, by go_num, by go_num, HCS.out.symm, b9⟩, by simp [intOf]; omega⟩
                      · have hfit' : m.length ≤ 1 := by omega
                        clear hfit
                        go_wp2_with fail
                        refine (seqSize_any x wr hxl).mono ?_
                        rintro e w9 ⟨rfl, c9, hw9⟩
                        have b9 : Below wX.heap.size wX w9 := by rw [hw9]; exact hB2.alloc hB2.size _
                        clear hw9
                        go_wp2_with fail
                        exact ⟨⟨n + 1, cc + m.length, by omega, by go_num, by go_num, HCS.out.symm, b9⟩, by simp [intOf]; omega⟩
                    · by_cases hu : U ≤ 262144
                      · clear hfit
                        go_wp2_with fail
                        exact ⟨⟨n + 1, cc + m.length, by omega, by go_num, by go_num, HCS.out.symm, hB2⟩, by simp [intOf]; omega⟩
                      · have hfit' : m.length ≤ 1 := by omega
                        clear hfit
                        go_wp2_with fail
                        exact ⟨⟨n + 1, cc + m.length, by omega, by go_num, by go_num, HCS.out.symm, hB2⟩, by simp [intOf]; omega⟩
            · obtain rfl : n = F.length := by omega
              clear hcc
              go_wp2
              go_ret
              exact ⟨rfl, below_trans BX hB⟩
end Go.Proofs.Qxb6609287a
