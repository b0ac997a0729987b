/-
  PackSeqs$3: each message is held back until the next is full; the last is marked. Its consumer is any that keeps its word (IA).
-/
import Derived.Test.Qxb6609287aPackIt
namespace Go.Proofs.Qxb6609287a
open Go.RowKit Go.Shelf

attribute [local go_sem] Oper.semAt_some

/-- The state of the holding: By, Bh: the boxes of yield and of the held message. -/
def IBx (lA : Nat) (IA : List (Value × Bool) → World → Prop) (By Bh lB dB : Nat) (rc : Loop) (vs : List Value) (hb : Option Nat) (W : World) : Prop :=
  Boxed W By 86 (.func (.yield lA) #[] #[]) ∧ W.heap[lB]? = some (.loop rc) ∧ W.heap[dB]? = some (.deferred (some [])) ∧
  ((vs = [] ∧ hb = none ∧ IA [] W ∧ Boxed W Bh 76 (.pointer none)) ∨
   (∃ vs' v b, vs = vs' ++ [v] ∧ hb = some b ∧ IA (vs'.map fun v => (v, false)) W ∧ Boxed W Bh 76 (.pointer (some ⟨b, 0, none⟩)) ∧ W.heap[b]? = some (.cells #[.bool false, v] 78 (0, 0)) ∧ (∃ a n c, v = .slice a n c)))

theorem sup_le {n₀ S S' b : Nat} {o : Obj} (h : S ≤ S') (hs : Sup n₀ S b o) : Sup n₀ S' b o := by
  obtain ⟨h1, h2, h3⟩ := hs
  exact ⟨h1, h2, h3.imp id (fun x => by omega)⟩

theorem IBx.stable {lA : Nat} {IA : List (Value × Bool) → World → Prop} {By Bh lB dB : Nat} {rc : Loop} {vs : List Value} {hb : Option Nat} {n₀ SA S : Nat} {W1 W' : World}
    (sA : ∀ acc W1 W', IA acc W1 → Keep (fun b o => ¬ Sup n₀ SA b o) W1 W' → IA acc W') (hSA : SA ≤ S) (h1 : n₀ ≤ By ∧ By < S) (h2 : n₀ ≤ Bh ∧ Bh < S) (h3 : n₀ ≤ lB ∧ lB < S) (h4 : n₀ ≤ dB ∧ dB < S)
    (h : IBx lA IA By Bh lB dB rc vs hb W1) (k : Keep (fun b o => ¬ (Sup n₀ S b o ∨ hb = some b)) W1 W') : IBx lA IA By Bh lB dB rc vs hb W' := by
  have kA : Keep (fun b o => ¬ Sup n₀ SA b o) W1 W' := k.mono (fun b o hn hs => hn (.inl (sup_le hSA hs)))
  have g : ∀ (b : Nat) (o : Obj), n₀ ≤ b ∧ b < S → tagC o = false → W1.heap[b]? = some o → W'.heap[b]? = some o := fun b o hb' ht hbo => k.same _ _ hbo (fun hn => hn (.inl ⟨hb'.1, ht, .inr hb'.2⟩))
  obtain ⟨a1, a2, a3, a4⟩ := h
  refine ⟨g _ _ h1 rfl a1, g _ _ h3 rfl a2, g _ _ h4 rfl a3, ?_⟩
  rcases a4 with ⟨rfl, rfl, b1, b2⟩ | ⟨vs', v, b, rfl, rfl, b1, b2, b3, b4⟩
  · exact .inl ⟨rfl, rfl, sA _ _ _ b1 kA, g _ _ h2 rfl b2⟩
  · exact .inr ⟨vs', v, b, rfl, rfl, sA _ _ _ b1 kA, g _ _ h2 rfl b2, k.same _ _ b3 (fun hn => hn (.inr rfl)), b4⟩

theorem new_at (X : World) (o : Obj) (n : Nat) (hn : X.heap.size = n) : (X.alloc o).heap[n]? = some o := by subst hn; exact World.alloc_heap_new X o

theorem six (W : World) (o1 o2 o3 o4 o5 o6 : Obj) :
    ((((((W.alloc o1).alloc o2).alloc o3).alloc o4).alloc o5).alloc o6).heap[W.heap.size]? = some o1 ∧
    ((((((W.alloc o1).alloc o2).alloc o3).alloc o4).alloc o5).alloc o6).heap[W.heap.size + 1]? = some o2 ∧
    ((((((W.alloc o1).alloc o2).alloc o3).alloc o4).alloc o5).alloc o6).heap[W.heap.size + 1 + 1]? = some o3 ∧
    ((((((W.alloc o1).alloc o2).alloc o3).alloc o4).alloc o5).alloc o6).heap[W.heap.size + 1 + 1 + 1]? = some o4 ∧
    ((((((W.alloc o1).alloc o2).alloc o3).alloc o4).alloc o5).alloc o6).heap[W.heap.size + 1 + 1 + 1 + 1]? = some o5 ∧
    ((((((W.alloc o1).alloc o2).alloc o3).alloc o4).alloc o5).alloc o6).heap[W.heap.size + 1 + 1 + 1 + 1 + 1]? = some o6 ∧
    ((((((W.alloc o1).alloc o2).alloc o3).alloc o4).alloc o5).alloc o6).heap.size = W.heap.size + 6 ∧
    Keep (fun _ _ => False) W ((((((W.alloc o1).alloc o2).alloc o3).alloc o4).alloc o5).alloc o6) := by
  refine ⟨old1 _ (old1 _ (old1 _ (old1 _ (old1 _ (new_at _ _ _ rfl))))), old1 _ (old1 _ (old1 _ (old1 _ (new_at _ _ _ (by simp))))), old1 _ (old1 _ (old1 _ (new_at _ _ _ (by simp)))), old1 _ (old1 _ (new_at _ _ _ (by simp))), old1 _ (new_at _ _ _ (by simp)), new_at _ _ _ (by simp), by simp,
    (((((Keep.alloc _ _ _).trans (Keep.alloc _ _ _)).trans (Keep.alloc _ _ _)).trans (Keep.alloc _ _ _)).trans (Keep.alloc _ _ _)).trans (Keep.alloc _ _ _)⟩

set_option maxRecDepth 100000 in
set_option maxHeartbeats 1000000 in
theorem packSeqs3_any (lA n₀ B1 B2 B3 Bt g cap : Nat) (IA : List (Value × Bool) → World → Prop) (xs : List Top) (W : World)
    (sA : ∀ acc W1 W', IA acc W1 → Keep (fun b o => ¬ Sup n₀ W.heap.size b o) W1 W' → IA acc W')
    (yA : ∀ acc W1 b v f m, IA acc W1 → W1.heap[b]? = some (.cells #[.bool f, v] 78 (0, 0)) → (∃ a n c, v = .slice a n c) → acc.length ≤ xs.length →
      YieldAt Fence.wide m Try.prog lA #[.pointer (some ⟨b, 0, none⟩)] W1 fun e W' => e = .returned (.bool true) ∧ IA (acc ++ [(v, f)]) W' ∧ Keep (fun b o => Sup n₀ W.heap.size b o) W1 W')
    (hn : n₀ ≤ W.heap.size) (b1 : Boxed W B1 83 (.func (.func 29) #[] #[.pointer (some ⟨Bt, 0, none⟩)])) (b2 : Boxed W B2 84 (.func (.func 35) #[] #[])) (b3 : Boxed W B3 85 (.func (.func 36) #[] #[]))
    (hBt : W.cell? ⟨Bt, 0, none⟩ = some (.slice (some ⟨g, 0, none⟩) xs.length cap)) (hg : g < n₀) (hsrc : W.ownsRow 0 60 3 (.slice (some ⟨g, 0, none⟩) xs.length cap) xs.length (flat xs))
    (hxs : ∀ x ∈ xs, x.s.size ≤ 1048576) (hlen : xs.length ≤ 32768) (h0 : IA [] W) :
    Calls Try.prog 37 #[.func (.yield lA) #[] #[], .pointer (some ⟨B1, 0, none⟩), .pointer (some ⟨B2, 0, none⟩), .pointer (some ⟨B3, 0, none⟩)] W fun e W' =>
      (∃ v, e = .returned v) ∧ ∃ vs v, IA (vs.map (fun v => (v, false)) ++ [(v, true)]) W' ∧ RowsAt W' n₀ W'.heap.size (vs ++ [v]) (packs xs) ∧ Keep (fun b o => Sup n₀ W.heap.size b o ∨ W.heap.size ≤ b) W W' := by
  have e1 := fun o1 o2 => ((b1.alloc o1).alloc o2).cell
  have e2 := fun o1 o2 => ((b2.alloc o1).alloc o2).cell
  have e3 := fun o1 o2 => ((b3.alloc o1).alloc o2).cell
  refine (callsIn_wide (n := 9)).1 ?_
  refine callsIn_of_wp_marks Try.func37 rfl trivial (wpIn_wide.2 ?_) rfl
  simp only [Try.ntmps37, List.size_toArray, List.length_cons, List.length_nil, Nat.reduceAdd, Nat.reduceSub, Array.replicate_succ, Array.replicate_zero, List.push_toArray, List.append_toArray, List.nil_append, List.cons_append]
  go_wp2_with fail
  refine (pack_any Bt _).mono ?_
  rintro e w' ⟨rfl, rfl⟩
  go_wp2_with fail
  clear e1 e2 e3
  obtain ⟨q1, q2, q3, q4, q5, q6, q7, q8⟩ := six W (.cells #[.func (.yield lA) #[] #[]] 86) (.cells #[.pointer none] 76) (.cells #[.func (.func 29) #[] #[.pointer (some ⟨Bt, 0, none⟩)]] 83) (.cells #[.int .i64 10] 3) (.cells #[.func (.func 35) #[] #[]] 84) (.cells #[.func (.func 36) #[] #[]] 85)
  generalize World.alloc _ (.cells #[.func (.func 36) #[] #[]] 85) = Wp at *
  refine wpIn_wide.1 (rangeFunc_run (n := 9) (gf := 41) rfl (enters_of Try.func41 (by kernel_rfl) rfl) ?_)
  intro fn
  generalize hrc : mkRec fn _ _ _ _ _ = rc
  have HRC : Hid _ := hrc
  clear hrc
  have kl := (Keep.alloc (fun _ _ => False) Wp (.deferred (some []))).trans (Keep.alloc _ _ (.loop rc))
  have kl0 := q8.trans kl
  have hl0 : ((Wp.alloc (.deferred (some []))).alloc (.loop rc)).heap[Wp.heap.size + 1]? = some (.loop rc) := new_at _ _ _ (by simp)
  have hd0 : ((Wp.alloc (.deferred (some []))).alloc (.loop rc)).heap[Wp.heap.size]? = some (.deferred (some [])) := old1 _ (World.alloc_heap_new Wp _)
  have hsz : ((Wp.alloc (.deferred (some []))).alloc (.loop rc)).heap.size = W.heap.size + 8 := by simp [q7]
  have q1' := kl.same _ _ q1 (fun f => f)
  have q2' := kl.same _ _ q2 (fun f => f)
  have q3' := kl.same _ _ q3 (fun f => f)
  have q4' := kl.same _ _ q4 (fun f => f)
  have q5' := kl.same _ _ q5 (fun f => f)
  have q6' := kl.same _ _ q6 (fun f => f)
  clear q1 q2 q3 q4 q5 q6 q8 kl
  have HQ7 : Hid _ := q7
  clear q7
  generalize World.alloc (World.alloc _ _) _ = Wl at *
  have hBt' : Wl.cell? ⟨Bt, 0, none⟩ = some (.slice (some ⟨g, 0, none⟩) xs.length cap) := by
    obtain ⟨o, ho, _⟩ := cells_of_cell hBt
    exact (World.cell?_of_block ((kl0.same _ _ ho (fun f => f)).trans ho.symm)).trans hBt
  have hq := HQ7.out
  have c1 : n₀ ≤ W.heap.size ∧ W.heap.size < Wl.heap.size := ⟨hn, by omega⟩
  have c2 : n₀ ≤ W.heap.size + 1 ∧ W.heap.size + 1 < Wl.heap.size := ⟨by omega, by omega⟩
  have c3 : n₀ ≤ Wp.heap.size + 1 ∧ Wp.heap.size + 1 < Wl.heap.size := ⟨by omega, by omega⟩
  have c4 : n₀ ≤ Wp.heap.size ∧ Wp.heap.size < Wl.heap.size := ⟨by omega, by omega⟩
  have hle : W.heap.size ≤ Wl.heap.size := by omega
  refine CallsIn.mono (callsIn_wide.2 (pack1_any (Wp.heap.size + 1) n₀ (W.heap.size + 1 + 1 + 1) (W.heap.size + 1 + 1) (W.heap.size + 1 + 1 + 1 + 1) (W.heap.size + 1 + 1 + 1 + 1 + 1) Bt g cap
    (IBx lA IA W.heap.size (W.heap.size + 1) (Wp.heap.size + 1) Wp.heap.size rc) xs Wl (fun vs hb W1 W' h k => IBx.stable sA hle c1 c2 c3 c4 h k) ?yB (by omega) q4' q3' q5' q6' hBt' hg
    (kl0.row hsrc (fun _ _ _ _ f => f)) hxs hlen ⟨q1', hl0, hd0, .inl ⟨rfl, rfl, sA _ _ _ h0 (kl0.mono (fun _ _ f => f.elim)), q2'⟩⟩)) ?done
  case yB =>
    rename_i Q' K hK
    clear hK K Q' hBt' hBt hsrc hl0 hd0 q1' q2' q3' q4' q5' q6' b1 b2 b3 h0 kl0 hg hxs
    rintro vs hb W1 b v m ⟨a1, a2, a3, a4⟩ hmsg hne hv hvl
    have ea := congrArg Loop.assign HRC.out.symm
    have eb := congrArg Loop.body HRC.out.symm
    have ep := congrArg Loop.params HRC.out.symm
    have et := congrArg Loop.tmps HRC.out.symm
    have es := congrArg Loop.state HRC.out.symm
    have epd := congrArg Loop.pending HRC.out.symm
    refine yieldAt_run a2 (by rw [es]; rfl) (by rw [epd]; rfl) (by rw [ep]; rfl) ?_
    intro rb
    rw [ea, eb, ep, et]
    clear ea eb ep et es epd HRC
    simp only [mkRec]
    gi_wp2
    refine ⟨a2, ?_⟩
    have kb : Keep (fun b _ => b = Wp.heap.size + 1) _ (W1.putObj (Wp.heap.size + 1) (.loop rb)) := Keep.putObj a2 rfl
    have l0 := World.putObj_heap_same (o := .loop rb) (Array.getElem?_eq_some_iff.1 a2).1
    have y0 := kb.same _ _ a1 (by omega)
    have d0 := kb.same _ _ a3 (by omega)
    have m0 := kb.same _ _ hmsg (by rintro rfl; rw [a2] at hmsg; cases hmsg)
    have k0 : Keep (fun b o => Sup n₀ Wl.heap.size b o ∨ hb = some b) W1 (W1.putObj (Wp.heap.size + 1) (.loop rb)) := kb.mono' (fun b o hbo e => by subst e; rw [a2] at hbo; cases hbo; exact .inl ⟨c3.1, rfl, .inr c3.2⟩)
    have kA : Keep (fun b o => ¬ Sup n₀ W.heap.size b o) W1 (W1.putObj (Wp.heap.size + 1) (.loop rb)) := kb.mono' (fun b o hbo e => by subst e; rw [a2] at hbo; cases hbo; exact not_sup_ge (by omega) rfl)
    have bh0 : ∀ x, Boxed W1 (W.heap.size + 1) 76 x → Boxed (W1.putObj (Wp.heap.size + 1) (.loop rb)) (W.heap.size + 1) 76 x := fun x hx => kb.same _ _ hx (by omega)
    have g0 : ∀ (b' : Nat) (o : Obj), o.isCells = true → W1.heap[b']? = some o → (W1.putObj (Wp.heap.size + 1) (.loop rb)).heap[b']? = some o := fun b' o ho hbo => kb.same _ _ hbo (by rintro rfl; rw [a2] at hbo; cases hbo; cases ho)
    have FIN : Hid (∀ (Y : World) (x : Value), IA (vs.map fun v => (v, false)) Y → Boxed Y W.heap.size 86 (.func (.yield lA) #[] #[]) → Boxed Y (W.heap.size + 1) 76 x → Y.heap[Wp.heap.size + 1]? = some (.loop rb) → Y.heap[Wp.heap.size]? = some (.deferred (some [])) → Y.heap[b]? = some (.cells #[.bool false, v] 78 (0, 0)) →
        Keep (fun b o => Sup n₀ Wl.heap.size b o ∨ hb = some b) W1 Y →
        (Y.setCell ⟨W.heap.size + 1, 0, none⟩ (.pointer (some ⟨b, 0, none⟩))).heap[Wp.heap.size + 1]? = some (.loop rb) ∧ True ∧ IBx lA IA W.heap.size (W.heap.size + 1) (Wp.heap.size + 1) Wp.heap.size rc (vs ++ [v]) (some b) ((Y.setCell ⟨W.heap.size + 1, 0, none⟩ (.pointer (some ⟨b, 0, none⟩))).putObj (Wp.heap.size + 1) (.loop rc)) ∧
          Keep (fun b o => Sup n₀ Wl.heap.size b o ∨ hb = some b) W1 ((Y.setCell ⟨W.heap.size + 1, 0, none⟩ (.pointer (some ⟨b, 0, none⟩))).putObj (Wp.heap.size + 1) (.loop rc))) := by
      intro Y x hia hy hx hl hd hm hk
      have ks : Keep (fun b' _ => b' = W.heap.size + 1) Y (Y.setCell ⟨W.heap.size + 1, 0, none⟩ (.pointer (some ⟨b, 0, none⟩))) := Keep.setCell _ hx rfl
      have hl1 := ks.same _ _ hl (by omega)
      have kp : Keep (fun b' _ => b' = Wp.heap.size + 1) (Y.setCell ⟨W.heap.size + 1, 0, none⟩ (.pointer (some ⟨b, 0, none⟩))) ((Y.setCell ⟨W.heap.size + 1, 0, none⟩ (.pointer (some ⟨b, 0, none⟩))).putObj (Wp.heap.size + 1) (.loop rc)) := Keep.putObj hl1 rfl
      have ne1 : b ≠ W.heap.size + 1 := by rintro rfl; cases hm.symm.trans hx
      have ne2 : b ≠ Wp.heap.size + 1 := by rintro rfl; cases hm.symm.trans hl
      have kk : Keep (fun b' o => (b' = W.heap.size + 1 ∧ o = .cells #[x] 76 (0, 0)) ∨ (b' = Wp.heap.size + 1 ∧ o = .loop rb)) Y ((Y.setCell ⟨W.heap.size + 1, 0, none⟩ (.pointer (some ⟨b, 0, none⟩))).putObj (Wp.heap.size + 1) (.loop rc)) :=
        (ks.mono' (fun b' o hbo e => by subst e; exact .inl ⟨rfl, by cases hbo.symm.trans hx; rfl⟩)).trans (kp.mono' (fun b' o hbo e => by subst e; exact .inr ⟨rfl, by cases hbo.symm.trans hl1; rfl⟩))
      refine ⟨hl1, trivial, ⟨kk.same _ _ hy ?_, World.putObj_heap_same (Array.getElem?_eq_some_iff.1 hl1).1, kk.same _ _ hd ?_, .inr ⟨vs, v, b, rfl, rfl, sA _ _ _ hia (kk.mono ?_), kp.same _ _ (Boxed.set _ hx) (by omega), kp.same _ _ (ks.same _ _ hm ne1) ne2, hv⟩⟩, hk.trans (kk.mono ?_)⟩
      · rintro (⟨e, _⟩ | ⟨e, _⟩) <;> omega
      · rintro (⟨e, _⟩ | ⟨e, _⟩) <;> omega
      · rintro b' o (⟨rfl, rfl⟩ | ⟨rfl, rfl⟩)
        · exact not_sup_ge (by omega) rfl
        · exact not_sup_ge (by omega) rfl
      · rintro b' o (⟨rfl, rfl⟩ | ⟨rfl, rfl⟩)
        · exact .inl ⟨c2.1, rfl, .inr c2.2⟩
        · exact .inl ⟨c3.1, rfl, .inr c3.2⟩
    have hsSA : ∀ (b' : Nat) (o : Obj), W.heap.size ≤ b' → tagA o = false → ¬ Sup n₀ W.heap.size b' o := fun b' o h ht => not_sup_ge h ht
    have HSA : Hid _ := hsSA
    have hw6 : W.heap.size + 1 < Wp.heap.size := by omega
    clear hq hsz hsSA a1 a2 a3 hmsg kb
    generalize World.putObj _ _ _ = Y0 at *
    rcases a4 with ⟨rfl, rfl, ia, bh⟩ | ⟨vs', v', b', rfl, rfl, ia, bh, hm', hv'⟩
    · have bh' := bh0 _ bh
      have c5 := bh'.cell
      have c6 := bh'.frozen
      gi_wp2
      refine ⟨fun _ h => (by cases h), ?_⟩
      gi_wp2
      exact FIN.out Y0 _ (sA _ _ _ ia kA) y0 bh' l0 d0 m0 k0
    · have bh' := bh0 _ bh
      have c5 := bh'.cell
      have c7 := Boxed.cell y0
      obtain ⟨fn1, tm1, as1, bd1, hy, hR⟩ := yA (vs'.map fun v => (v, false)) Y0 b' v' false (m - 1) (sA _ _ _ ia kA) (g0 _ _ rfl hm') hv' (by simp at hvl ⊢; omega)
      have HR : Hid _ := hR
      clear hR
      gi_wp2
      refine ⟨fun h => by simp [Fence.wide] at h, ?_⟩
      refine RoundIn.mono (show RoundIn (Fence.wide.inRound _) _ _ _ _ _ _ _ _ _ from HR.out) ?_
      rintro e Y1 ⟨rfl, ia1, kk⟩
      have y1 : Boxed Y1 W.heap.size 86 _ := kk.same _ _ y0 (HSA.out _ _ (Nat.le_refl _) rfl)
      have bh1 : Boxed Y1 (W.heap.size + 1) 76 _ := kk.same _ _ bh' (HSA.out _ _ (by omega) rfl)
      have l1 := kk.same _ _ l0 (HSA.out _ _ (by omega) rfl)
      have d1 := kk.same _ _ d0 (HSA.out _ _ (by omega) rfl)
      have m1 := kk.same _ _ m0 (not_sup_tag rfl)
      have k1 := k0.trans (kk.mono (fun b o hs => .inl (sup_le hle hs)))
      clear c5 c7 hy HR y0 bh' l0 d0 m0 k0 kk bh0 g0 ia bh hm'
      have c5 := bh1.cell
      have c6 := bh1.frozen
      gi_wp2
      exact FIN.out Y1 _ (by simpa using ia1) y1 bh1 l1 d1 m1 k1
  case done =>
    rename_i Q' K hK
    rintro e W2 ⟨⟨v0, rfl⟩, vs, b, ⟨a1, a2, a3, a4⟩, hbge, hrows, hfr⟩
    refine ⟨⟨_, rfl⟩, a2, fun rc' => ?_⟩
    refine hK _ _ ((wpIn_wide (n := 9)).1 ?_)
    clear hK K hBt' hl0 hd0 HRC hBt hsrc q1' q2' q3' q4' q5' q6'
    have kb : Keep (fun b _ => b = Wp.heap.size + 1) _ (W2.putObj (Wp.heap.size + 1) (.loop rc')) := Keep.putObj a2 rfl
    rcases a4 with ⟨_, e, _⟩ | ⟨vs', v, b', rfl, e, ia, bh, hm, hv⟩
    · cases e
    cases e
    have hlen2 : vs'.length ≤ xs.length := by have := hrows.1; have := packs_length xs; have := pfold_len xs; simp at *; omega
    have y0 : Boxed _ _ _ _ := kb.same _ _ a1 (by omega)
    have bh0 : Boxed _ _ _ _ := kb.same _ _ bh (by omega)
    have d0 := kb.same _ _ a3 (by omega)
    have m0 := kb.same _ _ hm (by rintro rfl; cases hm.symm.trans a2)
    have ia0 := sA _ _ _ ia (kb.mono' (fun b o hbo e => by subst e; cases hbo.symm.trans a2; exact not_sup_ge (by omega) rfl))
    have r0 := hrows.keep kb (fun g' c' _ hg' e => by subst e; cases hg'.symm.trans a2)
    have f0 := (kl0.mono (fun _ _ f => f.elim)).trans (hfr.mono (fun b o h => show Sup n₀ W.heap.size b o ∨ W.heap.size ≤ b by
      rcases h with ⟨h1, h2, h3 | h3⟩ | h
      · exact .inl ⟨h1, h2, .inl h3⟩
      · by_cases hlt : b < W.heap.size
        · exact .inl ⟨h1, h2, .inr hlt⟩
        · exact .inr (by omega)
      · exact .inr (by omega)))
    have f1 := f0.trans (kb.mono (fun b o e => show Sup n₀ W.heap.size b o ∨ W.heap.size ≤ b from by subst e; exact .inr (by omega)))
    have hw6 : W.heap.size + 1 < Wp.heap.size := by omega
    have hsk := kb.size
    clear hq hsz a1 a2 a3 bh hm ia hrows f0 hfr kl0 kb
    generalize World.putObj _ _ _ = Y0 at *
    have n1 : W.heap.size ≠ b := by rintro rfl; cases m0.symm.trans y0
    have n2 : W.heap.size + 1 ≠ b := by rintro rfl; cases m0.symm.trans bh0
    have ks : Keep (fun b' _ => b' = b) Y0 (Y0.setCell ⟨b, 0, none⟩ (.bool true)) := Keep.setCell _ m0 rfl
    have m1 := msg_set0 m0 (.bool true)
    have ia1 := sA _ _ _ ia0 (ks.mono' (fun b' o hbo e => by subst e; cases hbo.symm.trans m0; exact not_sup_tag rfl))
    obtain ⟨fn1, tm1, as1, bd1, hy, hR⟩ := yA (vs'.map fun v => (v, false)) _ b v true 8 ia1 m1 hv (by simpa using hlen2)
    have HR : Hid _ := hR
    clear hR
    have c5 := bh0.cell
    have c6 := y0.cell
    have c7 : Y0.cell? ⟨b, 0, none⟩ = some (.bool false) := cell_blk m0 0
    have c8 := frozen_blk m0 0
    gi_wp2_with fail
    refine RoundIn.mono HR.out ?_
    rintro e Y2 ⟨rfl, ia2, kk⟩
    have d1 := ks.same _ _ d0 (by rintro rfl; cases m0.symm.trans d0)
    have d2 := kk.same _ _ d1 (not_sup_ge (by omega) rfl)
    have r1 := r0.keep ks (fun g' c' _ hg' e => by subst e; cases hg'.symm.trans m0)
    have r2 := r1.keep kk (fun g' c' _ _ => not_sup_tag rfl)
    have f2 := (f1.trans (ks.mono' (fun b' o hbo e => by
      subst e
      exact .inr (by omega)))).trans (kk.mono (fun b' o hs => .inl hs))
    clear c5 c6 c7 c8 hy HR
    gi_wp2_with fail
    have kd : Keep (fun b _ => b = Wp.heap.size) Y2 (Y2.putObj Wp.heap.size (.deferred none)) := Keep.putObj d2 rfl
    refine leaves_mark d2 (results_none rfl _ _ _) ⟨⟨_, rfl⟩, vs', v, sA _ _ _ ia2 (kd.mono' ?_), ?_, f2.trans (kd.mono ?_)⟩
    · rintro b' o hbo rfl
      cases hbo.symm.trans d2
      exact not_sup_ge (by omega) rfl
    · refine (r2.keep kd (fun g' c' _ hg' e => by subst e; cases hg'.symm.trans d2)).mono ?_
      have := ks.size
      have := kk.size
      have := kd.size
      omega
    · rintro b' o rfl; exact .inr (by omega)
end Go.Proofs.Qxb6609287a
