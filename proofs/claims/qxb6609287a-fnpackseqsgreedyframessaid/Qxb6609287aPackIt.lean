/-
  pack$1: THE ITERATOR THAT PACKS. Its consumer is any that keeps its word (IB).
-/
import Derived.Test.Qxb6609287aPackSt
import Derived.Deep.DeepCutAuto
import Derived.BigRegion
import Derived.Stop.RegionWithIn
namespace Go.Proofs.Qxb6609287a
open Go.RowKit Go.Shelf

attribute [local go_sem] Oper.semAt_some

theorem new3 (X : World) (o1 o2 o3 : Obj) (n : Nat) (hn : X.heap.size = n) : (((X.alloc o1).alloc o2).alloc o3).drew.heap[n]? = some o1 ∧ (((X.alloc o1).alloc o2).alloc o3).drew.heap[n + 1]? = some o2 ∧ (((X.alloc o1).alloc o2).alloc o3).drew.heap[n + 1 + 1]? = some o3 ∧
    Keep (fun _ _ => False) X (((X.alloc o1).alloc o2).alloc o3).drew := by
  subst hn
  refine ⟨old1 _ (old1 _ (World.alloc_heap_new X o1)), ?_, ?_, (((Keep.alloc _ X o1).trans (Keep.alloc _ _ o2)).trans (Keep.alloc _ _ o3)).trans (Keep.drew _ _)⟩
  · have := World.alloc_heap_new (X.alloc o1) o2
    rw [World.size_alloc] at this
    exact old1 _ this
  · have := World.alloc_heap_new ((X.alloc o1).alloc o2) o3
    rw [World.size_alloc, World.size_alloc] at this
    exact this

theorem fresh3 {X : World} {Bm Bu : Nat} {v u : Value} (p q : Value) (o : Obj) (hm : Boxed X Bm 76 v) (hu : Boxed X Bu 3 u) (hne : Bm ≠ Bu) :
    Keep (fun b _ => b = Bm ∨ b = Bu) X (((X.alloc o).setCell ⟨Bm, 0, none⟩ p).setCell ⟨Bu, 0, none⟩ q).drew ∧ Boxed (((X.alloc o).setCell ⟨Bm, 0, none⟩ p).setCell ⟨Bu, 0, none⟩ q).drew Bm 76 p ∧ Boxed (((X.alloc o).setCell ⟨Bm, 0, none⟩ p).setCell ⟨Bu, 0, none⟩ q).drew Bu 3 q ∧
      (((X.alloc o).setCell ⟨Bm, 0, none⟩ p).setCell ⟨Bu, 0, none⟩ q).drew.heap[X.heap.size]? = some o := by
  have m1 := hm.alloc o
  have u1 := hu.alloc o
  have m2 := m1.set p
  have u2 := u1.other (fun e => hne e.symm) (B' := Bm) p
  refine ⟨(((Keep.alloc _ X o).trans (Keep.setCell (a := ⟨Bm, 0, none⟩) p m1 (.inl rfl))).trans (Keep.setCell (a := ⟨Bu, 0, none⟩) q u2 (.inr rfl))).trans (Keep.drew _ _), m2.other hne q, u2.set q, ?_⟩
  have h1 := hm.lt
  have h2 := hu.lt
  exact (Below.heap_setCell _ _ _ _ (by show X.heap.size ≠ Bu; omega)).trans ((Below.heap_setCell _ _ _ _ (by show X.heap.size ≠ Bm; omega)).trans (World.alloc_heap_new X o))

theorem pfold_len (xs : List Top) : (pfold xs).1.length ≤ xs.length ∧ (pfold xs).2.length ≤ xs.length := by
  induction xs using snoc_ind with
  | h0 => simp [pfold_nil]
  | h1 xs x ih =>
    rw [pfold_snoc]; unfold pstep
    split <;> simp <;> omega
theorem pfold_mem (xs : List Top) (y : Top) (h : y ∈ (pfold xs).2) : y ∈ xs := by
  have := pfold_flat xs
  rw [← this]; simp [h]
theorem used_le (c : List Top) (h : ∀ x ∈ c, x.s.size ≤ 1048576) : used c ≤ 10 + c.length * 1048593 := by
  induction c with
  | nil => simp [used]
  | cons x c ih =>
    have h1 := h x (by simp)
    have h2 := ih (fun y hy => h y (by simp [hy]))
    simp only [used, List.map_cons, List.sum_cons, List.length_cons, Top.sz] at h2 ⊢
    omega

/-- The state between two topics. -/
def IC (n₀ lB : Nat) (IB : List Value → Option Nat → World → Prop) (W0 : World) (Bm Bu : Nat) (pre : List Top) (W : World) : Prop :=
  ∃ vs hb bm v G, ICx n₀ lB IB W0 Bm Bu vs hb bm v G (pfold pre).1 (pfold pre).2 (used (pfold pre).2) W

set_option maxRecDepth 100000 in
set_option maxHeartbeats 1000000 in
theorem pack1_any (lB n₀ Be Bp Bs Ba Bt g cap : Nat) (IB : List Value → Option Nat → World → Prop) (xs : List Top) (W : World)
    (sB : ∀ vs hb W1 W', IB vs hb W1 → Keep (fun b o => ¬ (Sup n₀ W.heap.size b o ∨ hb = some b)) W1 W' → IB vs hb W')
    (yB : ∀ vs hb W1 b v m, IB vs hb W1 → W1.heap[b]? = some (.cells #[.bool false, v] 78 (0, 0)) → hb ≠ some b → (∃ a n c, v = .slice a n c) → vs.length ≤ xs.length →
      YieldAt Fence.wide m Try.prog lB #[.pointer (some ⟨b, 0, none⟩)] W1 fun e W' => e = .returned (.bool true) ∧ IB (vs ++ [v]) (some b) W' ∧ Keep (fun b o => Sup n₀ W.heap.size b o ∨ hb = some b) W1 W')
    (hn : n₀ ≤ W.heap.size) (be : Boxed W Be 3 (.int .i64 10)) (bp : Boxed W Bp 83 (.func (.func 29) #[] #[.pointer (some ⟨Bt, 0, none⟩)]))
    (bs : Boxed W Bs 84 (.func (.func 35) #[] #[])) (ba : Boxed W Ba 85 (.func (.func 36) #[] #[]))
    (hBt : W.cell? ⟨Bt, 0, none⟩ = some (.slice (some ⟨g, 0, none⟩) xs.length cap)) (hg : g < n₀) (hsrc : W.ownsRow 0 60 3 (.slice (some ⟨g, 0, none⟩) xs.length cap) xs.length (flat xs))
    (hxs : ∀ x ∈ xs, x.s.size ≤ 1048576) (hlen : xs.length ≤ 32768) (h0 : IB [] none W) :
    Calls Try.prog 41 #[.func (.yield lB) #[] #[], .pointer (some ⟨Be, 0, none⟩), .pointer (some ⟨Bp, 0, none⟩), .pointer (some ⟨Bs, 0, none⟩), .pointer (some ⟨Ba, 0, none⟩)] W fun e W' =>
      (∃ v, e = .returned v) ∧ ∃ vs b, IB vs (some b) W' ∧ W.heap.size ≤ b ∧ RowsAt W' n₀ W'.heap.size vs (packs xs) ∧ Keep (fun b o => Sup n₀ W.heap.size b o ∨ W.heap.size ≤ b) W W' := by
  have e1 := fun o1 => (be.alloc o1).cell
  have e2 := fun o1 o2 => ((be.alloc o1).alloc o2).cell
  have e3 := fun o1 o2 o3 => (((be.alloc o1).alloc o2).alloc o3).cell
  have e4 := fun o1 o2 o3 o4 => ((((be.alloc o1).alloc o2).alloc o3).alloc o4).cell
  refine (callsIn_wide (n := 9)).1 ?_
  refine callsIn_of_wp_marks Try.func41 rfl trivial (wpIn_wide.2 ?_) rfl
  simp only [Try.ntmps41, List.size_toArray, List.length_cons, List.length_nil, Nat.reduceAdd, Nat.reduceSub, Array.replicate_succ, Array.replicate_zero, List.push_toArray, List.append_toArray, List.nil_append, List.cons_append]
  go_wp2
  go_cut [6, 7] from 10 to 11 (fun p6 p7 wx => ∃ Bm Bu bm, p6 = .pointer (some ⟨Bm, 0, none⟩) ∧ p7 = .pointer (some ⟨Bu, 0, none⟩) ∧ Boxed wx Bm 76 (.pointer (some ⟨bm, 0, none⟩)) ∧ Boxed wx Bu 3 (.int .i64 10) ∧ wx.heap[bm]? = some (.cells #[.bool false, .slice none 0 0] 78 (0, 0)) ∧
    Keep (fun _ _ => False) (W.alloc (.cells #[.func (.yield lB) #[] #[]] 86)) wx ∧ W.heap.size < Bm ∧ W.heap.size < Bu ∧ W.heap.size < bm)
  case first =>
    go_region
    all_goals clear e1 e2 e3 e4
    all_goals go_wp2
    all_goals go_meet
    all_goals
      case rel =>
        first
          | refine ⟨_, _, _, rfl, rfl, (new3 (W.alloc _) _ _ _ (W.heap.size + 1) (by simp)).1, (new3 (W.alloc _) _ _ _ (W.heap.size + 1) (by simp)).2.1, (new3 (W.alloc _) _ _ _ (W.heap.size + 1) (by simp)).2.2.1, (new3 (W.alloc _) _ _ _ (W.heap.size + 1) (by simp)).2.2.2, ?_, ?_, ?_⟩
          | refine ⟨_, _, _, rfl, rfl, (new3 (W.alloc _) _ _ _ (W.heap.size + 1) (by simp)).1, (new3 (W.alloc _) _ _ _ (W.heap.size + 1) (by simp)).2.2.1, (new3 (W.alloc _) _ _ _ (W.heap.size + 1) (by simp)).2.1, (new3 (W.alloc _) _ _ _ (W.heap.size + 1) (by simp)).2.2.2, ?_, ?_, ?_⟩
          | refine ⟨_, _, _, rfl, rfl, (new3 (W.alloc _) _ _ _ (W.heap.size + 1) (by simp)).2.1, (new3 (W.alloc _) _ _ _ (W.heap.size + 1) (by simp)).1, (new3 (W.alloc _) _ _ _ (W.heap.size + 1) (by simp)).2.2.1, (new3 (W.alloc _) _ _ _ (W.heap.size + 1) (by simp)).2.2.2, ?_, ?_, ?_⟩
          | refine ⟨_, _, _, rfl, rfl, (new3 (W.alloc _) _ _ _ (W.heap.size + 1) (by simp)).2.1, (new3 (W.alloc _) _ _ _ (W.heap.size + 1) (by simp)).2.2.1, (new3 (W.alloc _) _ _ _ (W.heap.size + 1) (by simp)).1, (new3 (W.alloc _) _ _ _ (W.heap.size + 1) (by simp)).2.2.2, ?_, ?_, ?_⟩
          | refine ⟨_, _, _, rfl, rfl, (new3 (W.alloc _) _ _ _ (W.heap.size + 1) (by simp)).2.2.1, (new3 (W.alloc _) _ _ _ (W.heap.size + 1) (by simp)).1, (new3 (W.alloc _) _ _ _ (W.heap.size + 1) (by simp)).2.1, (new3 (W.alloc _) _ _ _ (W.heap.size + 1) (by simp)).2.2.2, ?_, ?_, ?_⟩
          | refine ⟨_, _, _, rfl, rfl, (new3 (W.alloc _) _ _ _ (W.heap.size + 1) (by simp)).2.2.1, (new3 (W.alloc _) _ _ _ (W.heap.size + 1) (by simp)).2.1, (new3 (W.alloc _) _ _ _ (W.heap.size + 1) (by simp)).1, (new3 (W.alloc _) _ _ _ (W.heap.size + 1) (by simp)).2.2.2, ?_, ?_, ?_⟩
        all_goals omega
  case rest =>
    clear e1 e2 e3 e4
    obtain ⟨Bm, Bu, bm, rfl, rfl, bm1, bu1, bmsg, k1, h1, h2, h3⟩ := hcut
    have k0 : Keep (fun _ _ => False) W wc := (Keep.alloc _ W _).trans k1
    have cp : wc.cell? ⟨Bp, 0, none⟩ = some (.func (.func 29) #[] #[.pointer (some ⟨Bt, 0, none⟩)]) := (k0.boxed bp (fun f => f)).cell
    have hst : ICx n₀ lB IB W Bm Bu [] none bm (.slice none 0 0) wc.heap.size [] [] 10 wc :=
      ⟨sB _ _ _ _ h0 (k0.mono (fun _ _ f => f.elim)), k0.mono (fun _ _ f => f.elim), k1.boxed (Boxed.new W 86 _) (fun f => f), bm1, bu1, bmsg, World.ownsRow_nil _ _ _ _, RowsAt.nil _ _ _, hn, k0.size, Nat.le_refl _, Nat.le_of_lt h3, h1, h2, fun b e => by cases e⟩
    clear bm1 bu1 bmsg k1
    go_wp2
    refine wpIn_wide.1 (rangeFunc_run (n := 9) (gf := 29) (lb := #[.pointer (some ⟨Bt, 0, none⟩)]) rfl (enters_of Try.func29 (by kernel_rfl) rfl) ?_)
    intro fn
    generalize hrc : mkRec fn _ _ _ _ _ = rc
    have HRC : Hid _ := hrc
    clear hrc cp
    have hl0 : ((wc.alloc (.deferred (some []))).alloc (.loop rc)).heap[wc.heap.size + 1]? = some (.loop rc) := by
      have := World.alloc_heap_new (wc.alloc (.deferred (some []))) (.loop rc)
      rwa [World.size_alloc] at this
    have hd0 : ((wc.alloc (.deferred (some []))).alloc (.loop rc)).heap[wc.heap.size]? = some (.deferred (some [])) := old1 _ (World.alloc_heap_new wc _)
    have hst' := hst.other sB ((Keep.alloc (fun _ _ => False) wc (.deferred (some []))).trans (Keep.alloc _ _ (.loop rc))) (fun _ _ _ f => f.elim)
    have hBt' : ((wc.alloc (.deferred (some []))).alloc (.loop rc)).cell? ⟨Bt, 0, none⟩ = some (.slice (some ⟨g, 0, none⟩) xs.length cap) := by
      obtain ⟨o, ho, _⟩ := cells_of_cell hBt
      exact (World.cell?_of_block ((old1 _ (old1 _ (k0.same _ _ ho (fun f => f)))).trans ho.symm)).trans hBt
    refine CallsIn.mono (seq_in 7 (wc.heap.size + 1) Bt g cap xs (fun pre W1 => IC n₀ lB IB W Bm Bu pre W1 ∧ W1.heap[wc.heap.size + 1]? = some (.loop rc) ∧ W1.heap[wc.heap.size]? = some (.deferred (some []))) ?rJ ?sJ ?yJ _ hBt' ⟨⟨_, _, _, _, _, hst'⟩, hl0, hd0⟩ (by omega)) ?done
    case rJ =>
      rintro pre W1 ⟨⟨vs, hb, bm, v, G, hI⟩, _, _⟩
      refine hI.fr.row hsrc ?_
      intro g' c e _
      simp [Value.ownBlock] at e
      subst e
      rintro (⟨h4, _⟩ | h4) <;> omega
    case sJ =>
      rintro pre W1 c ⟨⟨vs, hb, bm, v, G, hI⟩, hl, hd⟩
      exact ⟨⟨vs, hb, bm, v, G, hI.other sB (Keep.alloc (fun _ _ => False) W1 _) (fun _ _ _ f => f.elim)⟩, old1 _ hl, old1 _ hd⟩
    case yJ =>
      rename_i Q' K hK
      clear hK K Q' hBt' hst' hd0 hl0 hst hBt hg hsrc bp h0
      rintro pre x post W1 hsp ⟨⟨vs, hb, bm, v, G, hI⟩, hl, hd⟩
      have ea := congrArg Loop.assign HRC.out.symm
      have eb := congrArg Loop.body HRC.out.symm
      have ep := congrArg Loop.params HRC.out.symm
      have et := congrArg Loop.tmps HRC.out.symm
      have es := congrArg Loop.state HRC.out.symm
      have epd := congrArg Loop.pending HRC.out.symm
      refine yieldAt_run hl (by rw [es]; rfl) (by rw [epd]; rfl) (by rw [ep]; rfl) ?_
      intro rb
      rw [ea, eb, ep, et]
      clear ea eb ep et es epd HRC
      simp only [mkRec]
      unfold Top.val
      gi_wp2
      have hS := k0.size
      have hIa := hI.other sB (Keep.alloc (fun _ _ => False) W1 (.cells #[.string x.s, .int .u64 x.t, .int .u64 x.h] 60)) (fun _ _ _ f => f.elim)
      have hla := old1 (.cells #[.string x.s, .int .u64 x.t, .int .u64 x.h] 60) hl
      have hda := old1 (.cells #[.string x.s, .int .u64 x.t, .int .u64 x.h] 60) hd
      have hpa := World.alloc_heap_new W1 (.cells #[.string x.s, .int .u64 x.t, .int .u64 x.h] 60)
      refine ⟨hla, ?_⟩
      have kb : Keep (fun b _ => b = wc.heap.size + 1) _ ((W1.alloc (.cells #[.string x.s, .int .u64 x.t, .int .u64 x.h] 60)).putObj (wc.heap.size + 1) (.loop rb)) := Keep.putObj hla rfl
      have hIb := hIa.other sB kb (fun b o hbo e => by subst e; rw [hla] at hbo; cases hbo; exact ⟨by omega, rfl⟩)
      have hlb := World.putObj_heap_same (o := .loop rb) (Array.getElem?_eq_some_iff.1 hla).1
      have hdb := kb.same _ _ hda (by omega)
      have hpb := kb.same _ _ hpa (by rintro e; rw [e, hla] at hpa; cases hpa)
      have hps : W1.heap.size < ((W1.alloc (.cells #[.string x.s, .int .u64 x.t, .int .u64 x.h] 60)).putObj (wc.heap.size + 1) (.loop rb)).heap.size := (Array.getElem?_eq_some_iff.1 hpb).1
      clear hla hda hpa hIa kb hI hl hd
      generalize World.putObj _ _ _ = Wb at *
      have hx : x.s.size ≤ 1048576 := hxs x (by rw [hsp]; simp)
      have cb : ∀ (b : Nat) (t : TypeId) (v : Value), Boxed W b t v → tagC (.cells #[v] t (0, 0)) = true → ∀ vs hb bm v' G d c un W', ICx n₀ lB IB W Bm Bu vs hb bm v' G d c un W' → Boxed W' b t v := fun b t v hb ht vs hb' bm v' G d c un W' hI' =>
        hI'.fr.boxed hb (by
          rintro (e | e)
          · exact not_sup_tag ht e
          · have := hb.lt; omega)
      have c1 := (cb _ _ _ bs rfl _ _ _ _ _ _ _ _ _ hIb).cell
      have c2 := cell_blk hpb 0
      have c3 := cell_blk hpb 1
      have c4 := cell_blk hpb 2
      simp only [List.getElem?_toArray, List.getElem?_cons_zero, List.getElem?_cons_succ] at c2 c3 c4
      gi_wp2_with fail
      refine ⟨trivial, ?_⟩
      refine (CallsIn.inRound _ (callsIn_wide.2 (size_any x _ hx))).mono ?_
      rintro e w' ⟨rfl, c0, rfl⟩
      have hI1 := hIb.other sB (Keep.alloc (fun _ _ => False) Wb (.cells c0 60)) (fun _ _ _ f => f.elim)
      have hp1 := old1 (.cells c0 60) hpb
      have hl1 := old1 (.cells c0 60) hlb
      have hd1 := old1 (.cells c0 60) hdb
      have hpl := pfold_len pre
      have hprel : pre.length + 1 ≤ xs.length := by rw [hsp]; simp
      have hul := used_le (pfold pre).2 (fun y hy => hxs y (by rw [hsp]; simp [pfold_mem pre y hy]))
      have hvl : vs.length = (pfold pre).1.length := hIb.rows.1
      have hso := fun h => (pfold_snoc pre x).trans (pstep_over (pfold pre) x h)
      have hsf := fun h => (pfold_snoc pre x).trans (pstep_fits (pfold pre) x h)
      have hus := used_snoc (pfold pre).2 x
      have huo := used_one x
      have hsz : x.sz ≤ 1048593 := by unfold Top.sz; omega
      clear hIb hpb hlb hdb c1 c2 c3 c4 hps
      generalize Wb.alloc (.cells c0 60) = X1 at *
      generalize pfold pre = st at *
      obtain ⟨d, c⟩ := st
      simp only at *
      have hc32 : c.length ≤ 32768 := by omega
      have hun : used c ≤ 40000000000 := by omega
      generalize used c = un at *
      generalize x.sz = sz at *
      have HSO : Hid _ := hso
      have HSF : Hid _ := hsf
      have HUS : Hid _ := hus
      have HUO : Hid _ := huo
      clear hso hsf hus huo hul
      have c1 := hI1.u.cell
      have c2 := (cb _ _ _ ba rfl _ _ _ _ _ _ _ _ _ hI1).cell
      have c3 := hI1.m.cell
      have c5 : X1.cell? ⟨W1.heap.size, 0, none⟩ = some (.string x.s) := cell_blk hp1 0
      have c6 : X1.cell? ⟨W1.heap.size, 1, none⟩ = some (.int .u64 x.t) := cell_blk hp1 1
      have c7 : X1.cell? ⟨W1.heap.size, 2, none⟩ = some (.int .u64 x.h) := cell_blk hp1 2
      have FIN : Hid (∀ vs hb bm v G d c un X3, ICx n₀ lB IB W Bm Bu vs hb bm v G d c un X3 → X3.heap[wc.heap.size + 1]? = some (.loop rb) → X3.heap[wc.heap.size]? = some (.deferred (some [])) → pfold (pre ++ [x]) = (d, c) → un = used c →
          X3.heap[wc.heap.size + 1]? = some (.loop rb) ∧ True ∧ IC n₀ lB IB W Bm Bu (pre ++ [x]) (X3.putObj (wc.heap.size + 1) (.loop rc)) ∧ (X3.putObj (wc.heap.size + 1) (.loop rc)).heap[wc.heap.size + 1]? = some (.loop rc) ∧ (X3.putObj (wc.heap.size + 1) (.loop rc)).heap[wc.heap.size]? = some (.deferred (some []))) := by
        intro vs hb bm v G d c un X3 hI3 hl3 hd3 hpf hun3
        have kb : Keep (fun b _ => b = wc.heap.size + 1) _ (X3.putObj (wc.heap.size + 1) (.loop rc)) := Keep.putObj hl3 rfl
        have hI4 := hI3.other sB kb (fun b o hbo e => by subst e; rw [hl3] at hbo; cases hbo; exact ⟨by omega, rfl⟩)
        refine ⟨hl3, trivial, ⟨vs, hb, bm, v, G, ?_⟩, World.putObj_heap_same (Array.getElem?_eq_some_iff.1 hl3).1, kb.same _ _ hd3 (by omega)⟩
        rw [hpf, ← hun3]; exact hI4
      have NZ : ∀ (X : World) (vs : List Value) (hb : Option Nat) (bm : Nat) (v : Value) (G : Nat) (d : List (List Top)) (c : List Top) (un : Nat), ICx n₀ lB IB W Bm Bu vs hb bm v G d c un X → ∀ (b : Nat) (o : Obj), X.heap[b]? = some o → o.isCells = false → ¬ (b = bm ∨ v.ownBlock = some b) := by
        intro X vs hb bm v G d c un hI b o hbo ho
        rintro (rfl | e)
        · rw [hI.msg] at hbo; cases hbo; simp [Obj.isCells] at ho
        · exact row_ne hI.row hbo (fun c' e' => by subst e'; simp [Obj.isCells] at ho) e
      have HNZ : Hid _ := NZ
      clear NZ
      by_cases ho : 262144 < un + sz
      · have ho' : (262144 : Int) < (un : Int) + (sz : Int) := by omega
        have hne : hb ≠ some bm := fun e => (hI1.hhb bm e).2.1 rfl
        obtain ⟨fn1, tm1, as1, bd1, hy, hR⟩ := yB vs hb X1 bm v 6 hI1.ib hI1.msg hne (ownsRow_form hI1.row) (by omega)
        have HR : Hid _ := hR
        clear hR hne
        have c8 := hI1.y.cell
        gi_wp2_with fail
        refine RoundIn.mono (show RoundIn (Fence.wide.inRound _) _ _ _ _ _ _ _ _ _ from HR.out) ?_
        rintro e X2 ⟨rfl, ib2, kk⟩
        have be2 : Boxed X2 Be 3 (.int .i64 10) := hI1.stays kk (cb _ _ _ be rfl _ _ _ _ _ _ _ _ _ hI1) (.inr rfl) (fun cc e' => by cases e')
        have ba2 : Boxed X2 Ba 85 (.func (.func 36) #[] #[]) := hI1.stays kk (cb _ _ _ ba rfl _ _ _ _ _ _ _ _ _ hI1) (.inr rfl) (fun cc e' => by cases e')
        have bm2 : Boxed X2 Bm 76 _ := hI1.stays kk hI1.m (.inl ⟨Nat.le_of_lt hI1.hBm, rfl⟩) (fun cc e' => by cases e')
        have bu2 : Boxed X2 Bu 3 _ := hI1.stays kk hI1.u (.inr rfl) (fun cc e' => by cases e')
        have hp2 := hI1.stays kk hp1 (.inr rfl) (fun cc e' => by cases e')
        have hl2 := hI1.stays kk hl1 (.inl ⟨by omega, rfl⟩) (fun cc e' => by cases e')
        have hd2 := hI1.stays kk hd1 (.inl ⟨by omega, rfl⟩) (fun cc e' => by cases e')
        clear HR hy c1 c2 c3 c5 c6 c7 c8 hp1 hl1 hd1
        have d1 := fun o1 => (be2.alloc o1).cell
        have d2 := be2.cell
        have d3 := fun o1 => (bm2.alloc o1).cell
        have d4 := fun o1 => (bm2.alloc o1).frozen
        have d5 := fun o1 => (bu2.alloc o1).cell
        have d6 := fun o1 => (bu2.alloc o1).frozen
        have d7 : Bm ≠ Bu := by rintro rfl; have e' := bm2.symm.trans bu2; cases e'
        have d8 : Bu ≠ Bm := fun e => d7 e.symm
        have d9 : Be ≠ Bm := by have := be.lt; omega
        have d10 : Bm ≠ Be := fun e => d9 e.symm
        gi_wp2_with fail
        gi_region_with fail
        clear d1 d2 d3 d4 d5 d6
        all_goals
          obtain ⟨k2, m3, u3, msg3⟩ := fresh3 (.pointer (some ⟨X2.heap.size, 0, none⟩)) (.int .i64 10) (.cells #[.bool false, .slice none 0 0] 78) bm2 bu2 d7
          have hI3 := hI1.fresh sB ib2 kk k2 m3 u3 msg3 (Nat.le_refl _)
          have hp3 := k2.same _ _ hp2 (by rintro (e | e) <;> rw [e] at hp2; exact (by cases bm2.symm.trans hp2); exact (by cases bu2.symm.trans hp2))
          have hl3 := k2.same _ _ hl2 (by rintro (e | e) <;> rw [e] at hl2; exact (by cases bm2.symm.trans hl2); exact (by cases bu2.symm.trans hl2))
          have hd3 := k2.same _ _ hd2 (by rintro (e | e) <;> rw [e] at hd2; exact (by cases bm2.symm.trans hd2); exact (by cases bu2.symm.trans hd2))
          clear k2 m3 u3 msg3 hp2 hl2 hd2 bm2 bu2 ba2 be2 kk ib2 hI1
          generalize World.drew _ = X3 at *
          have c1 := hI3.u.cell
          have c2 := (cb _ _ _ ba rfl _ _ _ _ _ _ _ _ _ hI3).cell
          have c3 := hI3.m.cell
          have c5 : X3.cell? ⟨W1.heap.size, 0, none⟩ = some (.string x.s) := cell_blk hp3 0
          have c6 : X3.cell? ⟨W1.heap.size, 1, none⟩ = some (.int .u64 x.t) := cell_blk hp3 1
          have c7 : X3.cell? ⟨W1.heap.size, 2, none⟩ = some (.int .u64 x.h) := cell_blk hp3 2
          gi_wp2_with fail
          refine ⟨trivial, ?_⟩
          refine (CallsIn.inRound _ (callsIn_wide.2 (add_any X2.heap.size false (.slice none 0 0) X2.heap.size ([] : List Top).length (flat []) x X3 hI3.msg hI3.row (by simp) hI3.hGW))).mono ?_
          rintro e X4 ⟨⟨u, rfl⟩, v', hm', hr', kk⟩
          have hI4 := hI3.added sB hm' hr' kk
          have hl4 := kk.same _ _ hl3 (HNZ.out _ _ _ _ _ _ _ _ _ hI3 _ _ hl3 rfl)
          have hd4 := kk.same _ _ hd3 (HNZ.out _ _ _ _ _ _ _ _ _ hI3 _ _ hd3 rfl)
          clear c1 c2 c3 c5 c6 c7 hp3 hl3 hd3 hI3 hm' hr' kk
          have c1 := hI4.u.cell
          have c2 := hI4.u.frozen
          gi_wp2_with fail
          have hI5 := hI4.counted sB (10 + sz)
          rw [show ((10 + sz : Nat) : Int) = (10 : Int) + (sz : Int) from by omega] at hI5
          have kc : Keep (fun b _ => b = Bu) X4 (X4.setCell ⟨Bu, 0, none⟩ (.int .i64 ((10 : Int) + (sz : Int)))) := Keep.setCell _ hI4.u rfl
          refine FIN.out _ _ _ _ _ _ _ _ _ hI5 (kc.same _ _ hl4 ?_) (kc.same _ _ hd4 ?_) (HSO.out ho) HUO.out.symm
          · intro e; rw [e, show X4.heap[Bu]? = _ from hI4.u] at hl4; cases hl4
          · intro e; rw [e, show X4.heap[Bu]? = _ from hI4.u] at hd4; cases hd4
      · have ho' : ¬ (262144 : Int) < (un : Int) + (sz : Int) := by omega
        gi_wp2_with fail
        refine ⟨trivial, ?_⟩
        refine (CallsIn.inRound _ (callsIn_wide.2 (add_any bm false v G c.length (flat c) x X1 hI1.msg hI1.row (by omega) hI1.hGW))).mono ?_
        rintro e X2 ⟨⟨u, rfl⟩, v', hm', hr', kk⟩
        have hI2 := hI1.added sB hm' hr' kk
        have hl2 := kk.same _ _ hl1 (HNZ.out _ _ _ _ _ _ _ _ _ hI1 _ _ hl1 rfl)
        have hd2 := kk.same _ _ hd1 (HNZ.out _ _ _ _ _ _ _ _ _ hI1 _ _ hd1 rfl)
        clear c1 c2 c3 c5 c6 c7 hp1 hl1 hd1 hI1 hm' hr' kk
        have c1 := hI2.u.cell
        have c2 := hI2.u.frozen
        gi_wp2_with fail
        have hI3 := hI2.counted sB (un + sz)
        rw [show ((un + sz : Nat) : Int) = (un : Int) + (sz : Int) from by omega] at hI3
        have kc : Keep (fun b _ => b = Bu) X2 (X2.setCell ⟨Bu, 0, none⟩ (.int .i64 ((un : Int) + (sz : Int)))) := Keep.setCell _ hI2.u rfl
        refine FIN.out _ _ _ _ _ _ _ _ _ hI3 (kc.same _ _ hl2 ?_) (kc.same _ _ hd2 ?_) ?_ ?_
        · intro e; rw [e, show X2.heap[Bu]? = _ from hI2.u] at hl2; cases hl2
        · intro e; rw [e, show X2.heap[Bu]? = _ from hI2.u] at hd2; cases hd2
        · exact HSF.out ho
        · rw [HUS.out]
    case done =>
      rename_i Q' K hK
      rintro e W2 ⟨⟨v0, rfl⟩, ⟨vs, hb, bm, v, G, hI⟩, hl, hd⟩
      refine ⟨⟨_, rfl⟩, hl, fun rc' => ?_⟩
      refine hK _ _ ((wpIn_wide (n := 9)).1 ?_)
      clear hK K hst hst' hBt' hl0 hd0 HRC hBt hsrc
      have hS := k0.size
      have kb : Keep (fun b _ => b = wc.heap.size + 1) _ (W2.putObj (wc.heap.size + 1) (.loop rc')) := Keep.putObj hl rfl
      have hI' := hI.other sB kb (fun b o hbo e => by subst e; rw [hl] at hbo; cases hbo; exact ⟨by omega, rfl⟩)
      have hd' := kb.same _ _ hd (by omega)
      have hvl : vs.length ≤ xs.length := by have := hI.rows.1; have := pfold_len xs; omega
      clear kb hI hl hd
      generalize World.putObj _ _ _ = X at *
      obtain ⟨fn1, tm1, as1, bd1, hy, hR⟩ := yB vs hb X bm v 8 hI'.ib hI'.msg (fun e => (hI'.hhb bm e).2.1 rfl) (ownsRow_form hI'.row) hvl
      have HR : Hid _ := hR
      clear hR
      have c1 := hI'.y.cell
      have c2 := hI'.m.cell
      gi_wp2_with fail
      refine RoundIn.mono HR.out ?_
      rintro e X2 ⟨rfl, ib2, kk⟩
      have hd2 := hI'.stays kk hd' (.inl ⟨by omega, rfl⟩) (fun cc e' => by cases e')
      obtain ⟨hr2, hf2⟩ := hI'.last kk
      clear c1 c2 hy HR
      gi_wp2_with fail
      have kd : Keep (fun b _ => b = wc.heap.size) X2 (X2.putObj wc.heap.size (.deferred none)) := Keep.putObj hd2 rfl
      refine leaves_mark hd2 (results_none rfl _ _ _) ⟨⟨_, rfl⟩, _, _, sB _ _ _ _ ib2 (kd.mono' ?_), hI'.hbm, ?_, hf2.trans (kd.mono ?_)⟩
      · rintro b o hbo rfl hsup
        rw [hd2] at hbo; cases hbo
        rcases hsup with hsup | hsup
        · exact not_sup_ge hS rfl hsup
        · cases hsup
          have := hI'.stays kk hd' (.inl ⟨by omega, rfl⟩) (fun cc e' => by cases e')
          rw [hI'.msg] at hd'; cases hd'
      · have := (hr2.keep kd (fun g' c' _ hg' e => by subst e; rw [hd2] at hg'; cases hg')).mono kd.size
        exact this
      · rintro b o rfl; exact .inr hS
end Go.Proofs.Qxb6609287a
