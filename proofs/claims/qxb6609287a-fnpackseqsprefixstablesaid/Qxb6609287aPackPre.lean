/-
  FnPackSeqsPrefixStable: the walk.
-/
import Derived.Test.Qxb6609287aPackMsgs
namespace Go.Proofs.Qxb6609287a
open Go.RowKit Go.Shelf

set_option maxRecDepth 100000 in
set_option maxHeartbeats 4000000 in
theorem prefix_any (ao : Option Addr) (cap : Nat) (k : Int) (xs : List Top) (w : World) (h : SrcTS w ao xs) (hlc : xs.length ≤ cap) (hcm : cap ≤ maxLen) (hs : ∀ x ∈ xs, x.s.size ≤ maxLen) :
    Calls Try.prog 8 #[.slice ao xs.length cap, .int .i64 k] w fun e w' => e = .returned (.bool true) ∧ Below w.heap.size w w' := by
  go_enter Try.func8, Try.ntmps8
  go_wp2_with fail
  refine (zzBytes24_any ao cap k xs w h (by omega) hs).mono ?_
  rintro e w' ⟨⟨b, rfl⟩, rfl⟩
  cases b with
  | false => 
    go_wp2
    go_ret
    exact ⟨rfl, Below.refl _ _⟩
  | true =>
    go_wp2_with fail
    refine (tsBytes_any ao cap xs w' h (by omega) hs).mono ?_
    rintro e w'' ⟨⟨r, rfl, hr⟩, rfl⟩
    by_cases hrr : (1048576 : Int) < r
    · clear hr
      go_wp2
      go_ret
      exact ⟨rfl, Below.refl _ _⟩
    · obtain ⟨hlen, hsz⟩ := hr (by omega)
      clear hr
      by_cases hk1 : k < 1
      · go_wp2
        go_ret
        exact ⟨rfl, Below.refl _ _⟩
      by_cases hk2 : (xs.length : Int) < k
      · go_wp2
        go_ret
        exact ⟨rfl, Below.refl _ _⟩
      obtain ⟨k, rfl⟩ : ∃ k' : Nat, k = k' := ⟨k.toNat, by omega⟩
      have hxk : (xs.take k).length = k := by simp; omega
      have hkc : k ≤ cap := by omega
      have HK : Hid ((xs.take k).length = k) := hxk
      clear hxk
      go_wp2_with fail
      refine (toWire2 ao cap xs w'' h hlen).mono ?_
      rintro e w1 ⟨rfl, r1, B1⟩
      go_wp2_with fail
      refine (zzPack2 _ _ xs w1 r1 hsz hlen).mono ?_
      rintro e w2 ⟨gf, cf, gl, cl, rfl, o2, B2⟩
      have B12 := below_trans B1 B2
      have s2 := (h.keep B12).take k
      clear r1 B1 B2
      obtain ⟨bb, oo, rfl⟩ : ∃ bb oo, ao = some ⟨bb, oo, none⟩ := by
        rcases h with rfl | ⟨b, o, rfl, _⟩
        · simp at hk2; omega
        · exact ⟨b, o, rfl⟩
      go_wp2_with fail
      have hc := toWire2 (some ⟨bb, oo, none⟩) cap (xs.take k) w2 s2 (by rw [HK.out]; omega)
      rw [HK.out] at hc
      refine hc.mono ?_
      clear hc
      rintro e w3 ⟨rfl, r3, B3⟩
      go_wp2_with fail
      have hc := zzPack2 _ _ (xs.take k) w3 (by rw [HK.out]; exact r3) (fun x hx => hsz x (List.mem_of_mem_take hx)) (by rw [HK.out]; omega)
      rw [HK.out] at hc
      refine hc.mono ?_
      clear hc
      rintro e w4 ⟨gp, cp, gq, cq, rfl, o4, B4⟩
      have B34 := below_trans B3 B4
      have s4 := s2.keep B34
      have m4 := o2.msgs.keep B34
      have B14 := below_trans B12 B34
      have hp1 := packs_pos (xs.take k)
      have hp2 := packs_len (xs.take k)
      have hp3 := packs_len xs
      rw [HK.out] at hp2
      clear r3 B3 B4 B12 B34 s2 o2
      have hpl := prefix_plain xs k (by omega) (by omega)
      have hfl := packs_flat (xs.take k)
      have hcF : ∀ n, cnt (packs xs) n ≤ xs.length := fun n => by have := cnt_le (packs xs) n; rwa [packs_flat] at this
      generalize packs (xs.take k) = Pt at *
      generalize packs xs = F at *
      have HPL : Hid _ := hpl.2
      have HCF : Hid _ := hcF
      clear hcF
      have hPF := hpl.1
      have h40 : Pt.length ≤ 40000 := by omega
      clear hpl
      have hne : ((Pt.length : Int) == 0) = false := by rw [beq_eq_false_iff_ne]; omega
      go_wp2_with fail
      refine (onlyLast2 o4 h40).mono ?_
      rintro e w5 ⟨rfl, rfl⟩
      clear hne
      go_wp2_with fail
      have hc := carries2 o4 (xs.take k) hfl (some ⟨bb, oo, none⟩) cap s4 h40 (by rw [HK.out]; omega)
      rw [HK.out] at hc
      refine hc.mono ?_
      clear hc
      rintro e w6 ⟨rfl, B6⟩
      have MF : Hid _ := m4.keep B6
      have MP : Hid _ := o4.msgs.keep B6
      have B16 := below_trans B14 B6
      clear o4 s4 m4 B14 B6 hfl
      go_wp2_with fail
      go_loopw [9, 10, 11] (fun c m i wr => ∃ n cc : Nat, n ≤ Pt.length ∧ i = .int .i64 n ∧ m = .int .i64 n ∧ c = .int .i64 cc ∧ cc = cnt F n ∧ (n < Pt.length ∨ n = Pt.length ∧ k ≤ cc) ∧ Below w6.heap.size w6 wr) (fun _ _ i _ => Pt.length - (intOf i).toNat)
      case atStart => exact ⟨0, 0, Nat.zero_le _, rfl, rfl, rfl, rfl, .inl hp1, Below.refl _ _⟩
      case round =>
        obtain ⟨n, cc, hn, rfl, rfl, rfl, hcc, hend, hB⟩ := hrel
        have hcl := HCF.out n
        rw [← hcc] at hcl
        by_cases hlt : n < Pt.length
        · obtain ⟨mf, mp, hmf, hmp, hck, hdis, hsub, hnext⟩ := HPL.out n hlt
          rw [← hcc] at hck hdis
          have hcs := cnt_succ hmf
          rw [← hcc] at hcs
          have hcl2 := HCF.out (n + 1)
          rw [hcs] at hnext hcl2
          obtain ⟨fa, fc, hf1, hf2⟩ := MF.out n mf hmf
          obtain ⟨pa, pc, hp1', hp2'⟩ := MP.out n mp hmp
          have f1 := cell_keep hB hf1
          have p1 := cell_keep hB hp1'
          have HF2 : Hid _ := hf2
          have HP2 : Hid _ := hp2'
          have HCS : Hid _ := hcs
          have HSUB : Hid _ := hsub
          have HNX : Hid _ := hnext
          clear hmf hmp hcs hf2 hp2' hsub hcc hend hnext
          rcases hdis with ⟨e1, e2⟩ | ⟨e1, e2⟩
          · rw [e1] at p1 hp1'
            have HE1 : Hid _ := e1
            clear e1
            go_wp2
            go_loopw [13] (fun j wr => ∃ q : Nat, q ≤ mf.length ∧ j = .int .i64 q ∧ Below w6.heap.size w6 wr) (fun j _ => mf.length - (intOf j).toNat)
            case atStart => exact ⟨0, Nat.zero_le _, rfl, hB⟩
            case round =>
              obtain ⟨q, hq, rfl, hB2⟩ := hrel
              by_cases hqlt : q < mf.length
              · obtain ⟨x, hx⟩ : ∃ x, mp[q]? = some x := ⟨_, List.getElem?_eq_getElem (by have := HE1.out; omega)⟩
                have hlf := (List.getElem?_eq_some_iff.1 (HSUB.out q x hx)).1
                obtain ⟨g1, ea, a0, a1, a2⟩ := HF2.out q x (HSUB.out q x hx)
                obtain ⟨g2, eb, b0, b1, b2⟩ := HP2.out q x hx
                subst ea eb
                have ff := cell_keep hB2 hf1
                have pp := cell_keep hB2 hp1'
                have x0 := cell_keep hB2 a0
                have x1 := cell_keep hB2 a1
                have x2 := cell_keep hB2 a2
                have z0 := cell_alloc_any x0
                have z1 := cell_alloc_any x1
                have z2 := cell_alloc_any x2
                have y0 := cell_keep hB2 b0
                have y1 := cell_keep hB2 b1
                have y2 := cell_keep hB2 b2
                have ff' := cell_alloc_any ff
                clear a0 a1 a2 b0 b1 b2 hx
                go_wp2
                exact ⟨⟨q + 1, by omega, by go_num, (hB2.alloc hB2.size _).alloc (hB2.alloc hB2.size _).size _⟩, by simp [intOf]; omega⟩
              · obtain rfl : q = mf.length := by omega
                have ff := cell_keep hB2 hf1
                go_wp2
                exact ⟨⟨n + 1, cc + mf.length, by omega, by go_num, by go_num, by go_num, HCS.out.symm, HNX.out, hB2⟩, by simp [intOf]; omega⟩
          · have hkk : (k : Int) - cc = mp.length := by omega
            have e3 : mp.length < mf.length := by omega
            have HE1 : Hid (mp.length = mp.length) := rfl
            clear e1
            go_wp2
            go_loopw [13] (fun j wr => ∃ q : Nat, q ≤ mp.length ∧ j = .int .i64 q ∧ Below w6.heap.size w6 wr) (fun j _ => mp.length - (intOf j).toNat)
            case atStart => exact ⟨0, Nat.zero_le _, rfl, hB⟩
            case round =>
              obtain ⟨q, hq, rfl, hB2⟩ := hrel
              by_cases hqlt : q < mp.length
              · obtain ⟨x, hx⟩ : ∃ x, mp[q]? = some x := ⟨_, List.getElem?_eq_getElem (by have := HE1.out; omega)⟩
                have hlf := (List.getElem?_eq_some_iff.1 (HSUB.out q x hx)).1
                obtain ⟨g1, ea, a0, a1, a2⟩ := HF2.out q x (HSUB.out q x hx)
                obtain ⟨g2, eb, b0, b1, b2⟩ := HP2.out q x hx
                subst ea eb
                have ff := cell_keep hB2 hf1
                have pp := cell_keep hB2 hp1'
                have x0 := cell_keep hB2 a0
                have x1 := cell_keep hB2 a1
                have x2 := cell_keep hB2 a2
                have z0 := cell_alloc_any x0
                have z1 := cell_alloc_any x1
                have z2 := cell_alloc_any x2
                have y0 := cell_keep hB2 b0
                have y1 := cell_keep hB2 b1
                have y2 := cell_keep hB2 b2
                have ff' := cell_alloc_any ff
                clear a0 a1 a2 b0 b1 b2 hx
                go_wp2
                exact ⟨⟨q + 1, by omega, by go_num, (hB2.alloc hB2.size _).alloc (hB2.alloc hB2.size _).size _⟩, by simp [intOf]; omega⟩
              · obtain rfl : q = mp.length := by omega
                have ff := cell_keep hB2 hf1
                go_wp2
                exact ⟨⟨n + 1, cc + mf.length, by omega, by go_num, by go_num, by go_num, HCS.out.symm, HNX.out, hB2⟩, by simp [intOf]; omega⟩
        · obtain rfl : n = Pt.length := by omega
          have hkc' : k ≤ cc := by omega
          clear hend hcc
          by_cases hfl : Pt.length < F.length
          · go_wp2
            go_ret
            exact ⟨rfl, below_trans B16 hB⟩
          · go_wp2
            go_ret
            exact ⟨rfl, below_trans B16 hB⟩
end Go.Proofs.Qxb6609287a
