/-
  ZZPackSeqs: all messages and their marks, collected.
-/
import Derived.Test.Qxb6609287aPackHold
import Derived.Sort.CutIn
import Derived.Deep.QuietTactic
import Derived.BigQuiet
namespace Go.Proofs.Qxb6609287a
open Go.RowKit Go.Shelf

attribute [local go_sem] Oper.semAt_some

theorem eql_func_nil (a b c : Nat) (w : World) : (binOp .eql 74 (.func (.func 37) #[] #[.pointer (some ⟨a, 0, none⟩), .pointer (some ⟨b, 0, none⟩), .pointer (some ⟨c, 0, none⟩)]) .nilFunc).run Try.prog w = .ok (.bool false) w := by kernel_rfl

/-- The state of the collecting. -/
def IAx (n₀ Bo Bl lA dA : Nat) (rc : Loop) (acc : List (Value × Bool)) (W : World) : Prop :=
  (∃ vo, Boxed W Bo 48 vo ∧ W.ownsRow n₀ 52 1 vo acc.length (acc.map fun p => p.1)) ∧ (∃ vl, Boxed W Bl 49 vl ∧ W.ownsRow n₀ 4 1 vl acc.length (acc.map fun p => .bool p.2)) ∧ W.heap[lA]? = some (.loop rc) ∧ W.heap[dA]? = some (.deferred (some []))

theorem IAx.stable {n₀ SA Bo Bl lA dA : Nat} {rc : Loop} {acc : List (Value × Bool)} {W1 W' : World} (h1 : n₀ ≤ Bo) (h2 : n₀ ≤ Bl) (h3 : n₀ ≤ lA ∧ lA < SA) (h4 : n₀ ≤ dA ∧ dA < SA)
    (h : IAx n₀ Bo Bl lA dA rc acc W1) (k : Keep (fun b o => ¬ Sup n₀ SA b o) W1 W') : IAx n₀ Bo Bl lA dA rc acc W' := by
  obtain ⟨⟨vo, a1, a2⟩, ⟨vl, a3, a4⟩, a5, a6⟩ := h
  refine ⟨⟨vo, k.same _ _ a1 (fun hn => hn ⟨h1, rfl, .inl rfl⟩), k.row a2 ?_⟩, ⟨vl, k.same _ _ a3 (fun hn => hn ⟨h2, rfl, .inl rfl⟩), k.row a4 ?_⟩, k.same _ _ a5 (fun hn => hn ⟨h3.1, rfl, .inr h3.2⟩), k.same _ _ a6 (fun hn => hn ⟨h4.1, rfl, .inr h4.2⟩)⟩
  · intro g c hg _ hn
    exact hn ⟨(a2.lt g hg).1, rfl, .inl rfl⟩
  · intro g c hg _ hn
    exact hn ⟨(a4.lt g hg).1, rfl, .inl rfl⟩

/-- One value more is collected: the append, and the store into the box. -/
theorem collect {n₀ Bx : Nat} {T E : TypeId} {Y : World} {vx : Value} {k : Nat} {xs : List Value} {i : TypeInfo} {z : Value} {bytes : Nat} (hTE : T ≠ E) (hT : Try.prog.underlying T = some (.slice E)) (hi : Try.prog.info? E = some i) (hz0 : i.zero = some z) (hz1 : i.size = 1) (hz2 : i.bytes = bytes) (hzs : z.cells.size = 1)
    (bx : Boxed Y Bx T vx) (row : Y.ownsRow n₀ E 1 vx k xs) (u : Value) (hu : u.oneCell' = true) (hn : n₀ ≤ Y.heap.size) (hk : k ≤ 40000) (hb : bytes ≤ 24) :
    ∃ g' cap' w1, (Builtin.append_ #[T, T] T #[vx, .slice (some ⟨Y.heap.size, 0, none⟩) 1 1]).run Try.prog (Y.alloc (.cells #[u] E)).drew = .ok (.slice (some ⟨g', 0, none⟩) (k + 1) cap') w1 ∧ Boxed w1 Bx T vx ∧
      Boxed (w1.setCell ⟨Bx, 0, none⟩ (.slice (some ⟨g', 0, none⟩) (k + 1) cap')) Bx T (.slice (some ⟨g', 0, none⟩) (k + 1) cap') ∧ (w1.setCell ⟨Bx, 0, none⟩ (.slice (some ⟨g', 0, none⟩) (k + 1) cap')).ownsRow n₀ E 1 (.slice (some ⟨g', 0, none⟩) (k + 1) cap') (k + 1) (xs ++ [u]) ∧
      Keep (fun b o => (b = Bx ∧ o = .cells #[vx] T (0, 0)) ∨ (n₀ ≤ b ∧ ∃ c, o = .cells c E (0, 0))) Y (w1.setCell ⟨Bx, 0, none⟩ (.slice (some ⟨g', 0, none⟩) (k + 1) cap')) := by
  have hbm : (k + 1) * bytes ≤ 140737488355328 := Nat.le_trans (Nat.mul_le_mul (show k + 1 ≤ 40001 by omega) hb) (by decide)
  obtain ⟨v', w1, hrun, hown, hgrow, _⟩ := run_append_own (P := Try.prog) (Y.alloc (.cells #[u] E)).drew n₀ T T E i z 1 bytes hT hi hz0 hz1 hz2 hzs (by decide) vx k xs (row.alloc _).drew ⟨Y.heap.size, 0, none⟩ 1 1 [u] rfl (cell_one_new _ _ _) (by simpa using hu) (by simp [maxLen]; omega) hbm (by simp; omega)
  obtain ⟨g', cap', rfl⟩ := ownsRow_succ hown
  have hne : vx.ownBlock ≠ some Bx := row_ne row bx (fun c e => by simp at e; exact hTE e.2)
  have b1 : Boxed w1 Bx T vx := grow_block hgrow (bx.alloc _) hne
  have ks : Keep (fun b o => b = Bx ∧ o = .cells #[vx] T (0, 0)) w1 (w1.setCell ⟨Bx, 0, none⟩ (.slice (some ⟨g', 0, none⟩) (k + 1) cap')) := (Keep.setCell (a := ⟨Bx, 0, none⟩) (Z := fun b _ => b = Bx) _ b1 rfl).mono' (fun b o hbo e => by subst e; exact ⟨rfl, by cases hbo.symm.trans b1; rfl⟩)
  refine ⟨g', cap', w1, hrun, b1, b1.set _, ks.row hown ?_, (((Keep.alloc _ Y _).trans (Keep.drew _ _)).trans (Keep.grown hgrow ?_)).trans (ks.mono (fun b o h => .inl h))⟩
  · rintro g2 c _ hc ⟨_, e⟩
    simp at e; exact hTE e.2.symm
  · intro g2 o e ho
    refine .inr ⟨(row.lt g2 e).1, ?_⟩
    rcases row.2 with ⟨rfl, _⟩ | ⟨g3, cap3, cur, rfl, _, hg3, _⟩
    · simp [Value.ownBlock] at e
    · simp [Value.ownBlock] at e; subst e
      have := old1 (.cells #[u] E) hg3
      exact ⟨cur, by rw [show ((Y.alloc (.cells #[u] E)).drew).heap[g3]? = _ from this] at ho; cases ho; rfl⟩

/-- 'append' in a round, as one step of a region that draws its order: by its run. -/
theorem operIn_append_run {P : Program} {l n : Nat} {ops : Array Oper} {o : Oper} {a : Act} {w : World} {K : Act → World → Prop} {Q : Exit → Act → World → Prop} {E : Prop} (hg : o.guard = none) (s x : Operand) (t : TypeId)
    (hop : o.op = Op.call { callee := Callee.builtin Builtin.append, args := #[s, x], argTypes := #[t, t] }) {va vb v' : Value} {w1 : World} (hs : a.eval s = va) (hx : a.eval x = vb) (hrun : (Builtin.append_ #[t, t] o.type #[va, vb]).run P w = .ok v' w1) (h : K (a.put o.dst v') w1) :
    if Region.wanted o (yielded ops a.tmps) = true then Oper.wpIn (Fence.wide.inRound l) n P o a w K Q else E := by
  have hw : Region.wanted o (yielded ops a.tmps) = true := by simp [Region.wanted, hg]
  rw [if_pos hw]
  refine ⟨fun _ _ => trivial, ?_⟩
  rw [Oper.semAt_plain (Fence.wide.inRound l) _ _ (by rw [hop]; intro c hc'; cases hc')]
  simp [execOp, hop, resolve, invoke, builtin, hs, hx, hrun, Result.andThen]
  exact h

theorem eight (W : World) (o1 o2 o3 o4 o5 o6 o7 o8 : Obj) (X : World) (hX : X = (((((((W.alloc o1).alloc o2).alloc o3).alloc o4).alloc o5).alloc o6).alloc o7).alloc o8) :
    X.heap[W.heap.size]? = some o1 ∧ X.heap[W.heap.size + 1]? = some o2 ∧ X.heap[W.heap.size + 1 + 1]? = some o3 ∧ X.heap[W.heap.size + 1 + 1 + 1]? = some o4 ∧ X.heap[W.heap.size + 1 + 1 + 1 + 1]? = some o5 ∧
    X.heap[W.heap.size + 1 + 1 + 1 + 1 + 1]? = some o6 ∧ X.heap[W.heap.size + 1 + 1 + 1 + 1 + 1 + 1]? = some o7 ∧ X.heap[W.heap.size + 1 + 1 + 1 + 1 + 1 + 1 + 1]? = some o8 ∧ X.heap.size = W.heap.size + 8 ∧ Keep (fun _ _ => False) W X := by
  subst hX
  obtain ⟨q1, q2, q3, q4, q5, q6, q7, q8⟩ := six W o1 o2 o3 o4 o5 o6
  exact ⟨old1 _ (old1 _ q1), old1 _ (old1 _ q2), old1 _ (old1 _ q3), old1 _ (old1 _ q4), old1 _ (old1 _ q5), old1 _ (old1 _ q6), old1 _ (new_at _ _ _ (by rw [q7])), new_at _ _ _ (by simp), by simp, (q8.trans (Keep.alloc _ _ _)).trans (Keep.alloc _ _ _)⟩

set_option maxRecDepth 100000 in
set_option maxHeartbeats 1000000 in
theorem zzPack_any (g cap : Nat) (xs : List Top) (w : World) (hsrc : w.ownsRow 0 60 3 (.slice (some ⟨g, 0, none⟩) xs.length cap) xs.length (flat xs))
    (hxs : ∀ x ∈ xs, x.s.size ≤ 1048576) (hlen : xs.length ≤ 32768) :
    Calls Try.prog 19 #[.slice (some ⟨g, 0, none⟩) xs.length cap] w fun e W' => ∃ vo vl vs v, e = .returned (.tuple #[vo, vl]) ∧ W'.ownsRow w.heap.size 52 1 vo (vs.length + 1) (vs ++ [v]) ∧ W'.ownsRow w.heap.size 4 1 vl (vs.length + 1) (vs.map (fun _ => .bool false) ++ [.bool true]) ∧
      RowsAt W' w.heap.size W'.heap.size (vs ++ [v]) (packs xs) ∧ Below w.heap.size w W' := by
  refine (callsIn_wide (n := 9)).1 ?_
  refine callsIn_of_wp_marks Try.func19 rfl trivial (wpIn_wide.2 ?_) rfl
  simp only [Try.ntmps19, List.size_toArray, List.length_cons, List.length_nil, Nat.reduceAdd, Nat.reduceSub, Array.replicate_succ, Array.replicate_zero, List.push_toArray, List.append_toArray, List.nil_append, List.cons_append]
  go_wp2_with fail
  refine (packSeqs_any _ _).mono ?_
  rintro e w' ⟨rfl, rfl⟩
  have hef := eql_func_nil
  go_wp2_with fail
  clear hef
  generalize hX : World.alloc _ (.cells #[.func (.func 36) #[] #[]] 85) = Wp
  obtain ⟨q1, q2, q3, q4, q5, q6, q7, q8, q9, q10⟩ := eight w _ _ _ _ _ _ _ _ Wp hX.symm
  clear hX
  refine wpIn_wide.1 (rangeFunc_run (n := 9) (gf := 37) rfl (enters_of Try.func37 (by kernel_rfl) rfl) ?_)
  intro fn
  generalize hrc : mkRec fn _ _ _ _ _ = rc
  have HRC : Hid _ := hrc
  clear hrc
  have kl := (Keep.alloc (fun _ _ => False) Wp (.deferred (some []))).trans (Keep.alloc _ _ (.loop rc))
  have kl0 := q10.trans kl
  have hl0 : ((Wp.alloc (.deferred (some []))).alloc (.loop rc)).heap[Wp.heap.size + 1]? = some (.loop rc) := new_at _ _ _ (by simp)
  have hd0 : ((Wp.alloc (.deferred (some []))).alloc (.loop rc)).heap[Wp.heap.size]? = some (.deferred (some [])) := old1 _ (World.alloc_heap_new Wp _)
  have hsz : ((Wp.alloc (.deferred (some []))).alloc (.loop rc)).heap.size = w.heap.size + 10 := by simp [q9]
  have q1' := kl.same _ _ q1 (fun f => f)
  have q2' := kl.same _ _ q2 (fun f => f)
  have q3' := kl.same _ _ q3 (fun f => f)
  have q4' := kl.same _ _ q4 (fun f => f)
  have q5' := kl.same _ _ q5 (fun f => f)
  have q6' := kl.same _ _ q6 (fun f => f)
  have q7' := kl.same _ _ q7 (fun f => f)
  have q8' := kl.same _ _ q8 (fun f => f)
  clear q1 q2 q3 q4 q5 q6 q7 q8 q10 kl
  generalize World.alloc (World.alloc _ _) _ = Wl at *
  have c3 : w.heap.size ≤ Wp.heap.size + 1 ∧ Wp.heap.size + 1 < Wl.heap.size := ⟨by omega, by omega⟩
  have c4 : w.heap.size ≤ Wp.heap.size ∧ Wp.heap.size < Wl.heap.size := ⟨by omega, by omega⟩
  have hgl : g < w.heap.size := (hsrc.lt g rfl).2
  refine CallsIn.mono (callsIn_wide.2 (packSeqs3_any (Wp.heap.size + 1) w.heap.size _ _ _ w.heap.size g cap (IAx w.heap.size (w.heap.size + 1 + 1) (w.heap.size + 1 + 1 + 1 + 1) (Wp.heap.size + 1) Wp.heap.size rc) xs Wl
    (fun acc W1 W' h k => IAx.stable (by omega) (by omega) c3 c4 h k) ?yA (by omega) q6' q7' q8' (cell_blk q1' 0) hgl (kl0.row hsrc (fun _ _ _ _ f => f)) hxs hlen ?start)) ?done
  case start =>
    refine ⟨⟨_, q3', ?_⟩, ⟨_, q5', ?_⟩, hl0, hd0⟩
    · exact ⟨rfl, .inr ⟨_, 0, #[], rfl, by omega, q2', Nat.le_refl _, by simp, rfl, rfl⟩⟩
    · exact ⟨rfl, .inr ⟨_, 0, #[], rfl, by omega, q4', Nat.le_refl _, by simp, rfl, rfl⟩⟩
  case yA =>
    rename_i Q' K hK
    clear hK K Q' hsrc hl0 hd0 q1' q2' q3' q4' q5' q6' q7' q8' kl0 hxs hgl
    rintro acc W1 b v f m ⟨⟨vo, a1, a2⟩, ⟨vl, a3, a4⟩, a5, a6⟩ hmsg hv hvl
    have ea := congrArg Loop.assign HRC.out.symm
    have eb := congrArg Loop.body HRC.out.symm
    have ep := congrArg Loop.params HRC.out.symm
    have et := congrArg Loop.tmps HRC.out.symm
    have es := congrArg Loop.state HRC.out.symm
    have epd := congrArg Loop.pending HRC.out.symm
    refine yieldAt_run a5 (by rw [es]; rfl) (by rw [epd]; rfl) (by rw [ep]; rfl) ?_
    intro rb
    rw [ea, eb, ep, et]
    clear ea eb ep et es epd HRC
    simp only [mkRec]
    gi_wp2
    refine ⟨a5, ?_⟩
    have kb : Keep (fun b _ => b = Wp.heap.size + 1) _ (W1.putObj (Wp.heap.size + 1) (.loop rb)) := Keep.putObj a5 rfl
    have l0 := World.putObj_heap_same (o := .loop rb) (Array.getElem?_eq_some_iff.1 a5).1
    have bo0 : Boxed _ _ _ _ := kb.same _ _ a1 (by omega)
    have bl0 : Boxed _ _ _ _ := kb.same _ _ a3 (by omega)
    have d0 := kb.same _ _ a6 (by omega)
    have m0 := kb.same _ _ hmsg (by rintro rfl; cases a5.symm.trans hmsg)
    have ro0 := kb.row a2 (fun g' c' _ hg' e => by subst e; cases hg'.symm.trans a5)
    have rl0 := kb.row a4 (fun g' c' _ hg' e => by subst e; cases hg'.symm.trans a5)
    have k0 : Keep (fun b o => Sup w.heap.size Wl.heap.size b o) W1 (W1.putObj (Wp.heap.size + 1) (.loop rb)) := kb.mono' (fun b o hbo e => by subst e; cases hbo.symm.trans a5; exact ⟨c3.1, rfl, .inr c3.2⟩)
    have hs0 : w.heap.size + 1 + 1 + 1 + 1 < Wp.heap.size := by omega
    have hs1 : Wp.heap.size + 1 < (W1.putObj (Wp.heap.size + 1) (.loop rb)).heap.size := (Array.getElem?_eq_some_iff.1 l0).1
    clear a1 a2 a3 a4 a5 a6 hmsg kb q9 hsz
    generalize World.putObj _ _ _ = Y0 at *
    obtain ⟨va, vn, vc, rfl⟩ := hv
    obtain ⟨i0, hi, hz0, hz1, hz2⟩ := info_parts Try.info52
    obtain ⟨j0, hj, hy0, hy1, hy2⟩ := info_parts Try.info4
    obtain ⟨go, co, w1, hrun, b1, b2, r2, k2⟩ := collect (by decide) Try.underlying48 hi hz0 hz1 hz2 rfl bo0 ro0 (.slice va vn vc) rfl (by omega) (by omega) (by decide)
    have d1 := fun o => (bo0.alloc o).cell
    have d2 := bo0.cell
    have d3 := fun o => cell_blk (old1 o m0) 1
    have d4 := cell_blk m0 1
    have d5 := b1.cell
    have d6 := b1.frozen
    simp only [List.getElem?_toArray, List.getElem?_cons_zero, List.getElem?_cons_succ] at d3 d4
    gi_wp2_with fail
    gi_cut [] from 20 (fun wx => wx = w1.setCell ⟨w.heap.size + 1 + 1, 0, none⟩ (.slice (some ⟨go, 0, none⟩) (acc.length + 1) co))
    case first =>
      refine wpIn_region_any (by kernel_rfl) ?_
      change wpAnyIn _ _ _ _ _ _ _ _ _ (World.drew _)
      refine wpAnyIn_ready (rs := [0, 1]) (by kernel_rfl) (by simp) ?_
      refine AllReadyIn.cons rfl (fun K hK => ?_) (AllReadyIn.cons rfl (fun K hK => ?_) AllReadyIn.nil)
      · go_simp
        refine hK _ _ ?_; clear hK K
        refine wpAnyIn_ready (rs := [1]) (by kernel_rfl) (by simp) ?_
        refine AllReadyIn.cons rfl (fun K hK => ?_) AllReadyIn.nil
        go_simp
        refine hK _ _ ?_; clear hK K
        refine wpAnyIn_ready (rs := [2]) (by kernel_rfl) (by simp) ?_
        refine AllReadyIn.cons rfl (fun K hK => ?_) AllReadyIn.nil
        go_simp
        refine hK _ _ ?_; clear hK K
        refine wpAnyIn_ready (rs := [3]) (by kernel_rfl) (by simp) ?_
        refine AllReadyIn.cons rfl (fun K hK => ?_) AllReadyIn.nil
        go_simp
        refine hK _ _ ?_; clear hK K
        refine wpAnyIn_ready (rs := [4]) (by kernel_rfl) (by simp) ?_
        refine AllReadyIn.cons rfl (fun K hK => ?_) AllReadyIn.nil
        go_simp
        refine hK _ _ ?_; clear hK K
        refine wpAnyIn_ready (rs := [5]) (by kernel_rfl) (by simp) ?_
        refine AllReadyIn.cons rfl (fun K hK => ?_) AllReadyIn.nil
        go_simp
        refine hK _ _ ?_; clear hK K
        refine wpAnyIn_ready (rs := [6]) (by kernel_rfl) (by simp) ?_
        refine AllReadyIn.cons rfl (fun K hK => ?_) AllReadyIn.nil
        refine operIn_append_run rfl (.tmp 20) (.tmp 25) 48 rfl rfl rfl hrun ?_
        refine hK _ _ ?_; clear hK K
        simp only [Act.put, List.setIfInBounds_toArray]
        refine wpAnyIn_ready (rs := [7]) (by kernel_rfl) (by simp) ?_
        refine AllReadyIn.cons rfl (fun K hK => ?_) AllReadyIn.nil
        go_simp
        refine hK _ _ ?_; clear hK K
        refine wpAnyIn_done (by kernel_rfl) ?_ _
        gi_wp2_with fail; gi_meet; exact rfl
      · go_simp
        refine hK _ _ ?_; clear hK K
        refine wpAnyIn_ready (rs := [0, 2]) (by kernel_rfl) (by simp) ?_
        refine AllReadyIn.cons rfl (fun K hK => ?_) (AllReadyIn.cons rfl (fun K hK => ?_) AllReadyIn.nil)
        · go_simp
          refine hK _ _ ?_; clear hK K
          refine wpAnyIn_ready (rs := [2]) (by kernel_rfl) (by simp) ?_
          refine AllReadyIn.cons rfl (fun K hK => ?_) AllReadyIn.nil
          go_simp
          refine hK _ _ ?_; clear hK K
          refine wpAnyIn_ready (rs := [3]) (by kernel_rfl) (by simp) ?_
          refine AllReadyIn.cons rfl (fun K hK => ?_) AllReadyIn.nil
          go_simp
          refine hK _ _ ?_; clear hK K
          refine wpAnyIn_ready (rs := [4]) (by kernel_rfl) (by simp) ?_
          refine AllReadyIn.cons rfl (fun K hK => ?_) AllReadyIn.nil
          go_simp
          refine hK _ _ ?_; clear hK K
          refine wpAnyIn_ready (rs := [5]) (by kernel_rfl) (by simp) ?_
          refine AllReadyIn.cons rfl (fun K hK => ?_) AllReadyIn.nil
          go_simp
          refine hK _ _ ?_; clear hK K
          refine wpAnyIn_ready (rs := [6]) (by kernel_rfl) (by simp) ?_
          refine AllReadyIn.cons rfl (fun K hK => ?_) AllReadyIn.nil
          refine operIn_append_run rfl (.tmp 20) (.tmp 25) 48 rfl rfl rfl hrun ?_
          refine hK _ _ ?_; clear hK K
          simp only [Act.put, List.setIfInBounds_toArray]
          refine wpAnyIn_ready (rs := [7]) (by kernel_rfl) (by simp) ?_
          refine AllReadyIn.cons rfl (fun K hK => ?_) AllReadyIn.nil
          go_simp
          refine hK _ _ ?_; clear hK K
          refine wpAnyIn_done (by kernel_rfl) ?_ _
          gi_wp2_with fail; gi_meet; exact rfl
        · go_simp
          refine hK _ _ ?_; clear hK K
          refine wpAnyIn_ready (rs := [0, 3]) (by kernel_rfl) (by simp) ?_
          refine AllReadyIn.cons rfl (fun K hK => ?_) (AllReadyIn.cons rfl (fun K hK => ?_) AllReadyIn.nil)
          · go_simp
            refine hK _ _ ?_; clear hK K
            refine wpAnyIn_ready (rs := [3]) (by kernel_rfl) (by simp) ?_
            refine AllReadyIn.cons rfl (fun K hK => ?_) AllReadyIn.nil
            go_simp
            refine hK _ _ ?_; clear hK K
            refine wpAnyIn_ready (rs := [4]) (by kernel_rfl) (by simp) ?_
            refine AllReadyIn.cons rfl (fun K hK => ?_) AllReadyIn.nil
            go_simp
            refine hK _ _ ?_; clear hK K
            refine wpAnyIn_ready (rs := [5]) (by kernel_rfl) (by simp) ?_
            refine AllReadyIn.cons rfl (fun K hK => ?_) AllReadyIn.nil
            go_simp
            refine hK _ _ ?_; clear hK K
            refine wpAnyIn_ready (rs := [6]) (by kernel_rfl) (by simp) ?_
            refine AllReadyIn.cons rfl (fun K hK => ?_) AllReadyIn.nil
            refine operIn_append_run rfl (.tmp 20) (.tmp 25) 48 rfl rfl rfl hrun ?_
            refine hK _ _ ?_; clear hK K
            simp only [Act.put, List.setIfInBounds_toArray]
            refine wpAnyIn_ready (rs := [7]) (by kernel_rfl) (by simp) ?_
            refine AllReadyIn.cons rfl (fun K hK => ?_) AllReadyIn.nil
            go_simp
            refine hK _ _ ?_; clear hK K
            refine wpAnyIn_done (by kernel_rfl) ?_ _
            gi_wp2_with fail; gi_meet; exact rfl
          · go_simp
            refine hK _ _ ?_; clear hK K
            refine wpAnyIn_ready (rs := [0, 4]) (by kernel_rfl) (by simp) ?_
            refine AllReadyIn.cons rfl (fun K hK => ?_) (AllReadyIn.cons rfl (fun K hK => ?_) AllReadyIn.nil)
            · go_simp
              refine hK _ _ ?_; clear hK K
              refine wpAnyIn_ready (rs := [4]) (by kernel_rfl) (by simp) ?_
              refine AllReadyIn.cons rfl (fun K hK => ?_) AllReadyIn.nil
              go_simp
              refine hK _ _ ?_; clear hK K
              refine wpAnyIn_ready (rs := [5]) (by kernel_rfl) (by simp) ?_
              refine AllReadyIn.cons rfl (fun K hK => ?_) AllReadyIn.nil
              go_simp
              refine hK _ _ ?_; clear hK K
              refine wpAnyIn_ready (rs := [6]) (by kernel_rfl) (by simp) ?_
              refine AllReadyIn.cons rfl (fun K hK => ?_) AllReadyIn.nil
              refine operIn_append_run rfl (.tmp 20) (.tmp 25) 48 rfl rfl rfl hrun ?_
              refine hK _ _ ?_; clear hK K
              simp only [Act.put, List.setIfInBounds_toArray]
              refine wpAnyIn_ready (rs := [7]) (by kernel_rfl) (by simp) ?_
              refine AllReadyIn.cons rfl (fun K hK => ?_) AllReadyIn.nil
              go_simp
              refine hK _ _ ?_; clear hK K
              refine wpAnyIn_done (by kernel_rfl) ?_ _
              gi_wp2_with fail; gi_meet; exact rfl
            · go_simp
              refine hK _ _ ?_; clear hK K
              refine wpAnyIn_ready (rs := [0, 5]) (by kernel_rfl) (by simp) ?_
              refine AllReadyIn.cons rfl (fun K hK => ?_) (AllReadyIn.cons rfl (fun K hK => ?_) AllReadyIn.nil)
              · go_simp
                refine hK _ _ ?_; clear hK K
                refine wpAnyIn_ready (rs := [5]) (by kernel_rfl) (by simp) ?_
                refine AllReadyIn.cons rfl (fun K hK => ?_) AllReadyIn.nil
                go_simp
                refine hK _ _ ?_; clear hK K
                refine wpAnyIn_ready (rs := [6]) (by kernel_rfl) (by simp) ?_
                refine AllReadyIn.cons rfl (fun K hK => ?_) AllReadyIn.nil
                refine operIn_append_run rfl (.tmp 20) (.tmp 25) 48 rfl rfl rfl hrun ?_
                refine hK _ _ ?_; clear hK K
                simp only [Act.put, List.setIfInBounds_toArray]
                refine wpAnyIn_ready (rs := [7]) (by kernel_rfl) (by simp) ?_
                refine AllReadyIn.cons rfl (fun K hK => ?_) AllReadyIn.nil
                go_simp
                refine hK _ _ ?_; clear hK K
                refine wpAnyIn_done (by kernel_rfl) ?_ _
                gi_wp2_with fail; gi_meet; exact rfl
              · go_simp
                refine hK _ _ ?_; clear hK K
                refine wpAnyIn_ready (rs := [0]) (by kernel_rfl) (by simp) ?_
                refine AllReadyIn.cons rfl (fun K hK => ?_) AllReadyIn.nil
                go_simp
                refine hK _ _ ?_; clear hK K
                refine wpAnyIn_ready (rs := [6]) (by kernel_rfl) (by simp) ?_
                refine AllReadyIn.cons rfl (fun K hK => ?_) AllReadyIn.nil
                refine operIn_append_run rfl (.tmp 20) (.tmp 25) 48 rfl rfl rfl hrun ?_
                refine hK _ _ ?_; clear hK K
                simp only [Act.put, List.setIfInBounds_toArray]
                refine wpAnyIn_ready (rs := [7]) (by kernel_rfl) (by simp) ?_
                refine AllReadyIn.cons rfl (fun K hK => ?_) AllReadyIn.nil
                go_simp
                refine hK _ _ ?_; clear hK K
                refine wpAnyIn_done (by kernel_rfl) ?_ _
                gi_wp2_with fail; gi_meet; exact rfl
    case rest =>
      obtain rfl := hcut
      clear d1 d2 d3 d4 d5 d6 hrun b1
      have bl1 : Boxed _ _ _ _ := k2.same _ _ bl0 (by rintro (⟨_, e⟩ | ⟨_, c, e⟩) <;> cases e)
      have rl1 := k2.row rl0 (fun g' c' _ _ => by rintro (⟨_, e⟩ | ⟨_, c, e⟩) <;> cases e)
      have m1 := k2.same _ _ m0 (by rintro (⟨_, e⟩ | ⟨_, c, e⟩) <;> cases e)
      have l1 := k2.same _ _ l0 (by rintro (⟨_, e⟩ | ⟨_, c, e⟩) <;> cases e)
      have d1' := k2.same _ _ d0 (by rintro (⟨_, e⟩ | ⟨_, c, e⟩) <;> cases e)
      have k1 := k0.trans (k2.mono (fun b o h => show Sup w.heap.size Wl.heap.size b o by
        rcases h with ⟨rfl, rfl⟩ | ⟨h1, c, rfl⟩
        · exact ⟨by omega, rfl, .inl rfl⟩
        · exact ⟨h1, rfl, .inl rfl⟩))
      have hs2 := k2.size
      clear bl0 rl0 m0 l0 d0 k0 k2 bo0 ro0
      generalize w1.setCell _ _ = Y1 at *
      obtain ⟨gl, cl, w2, hrun, b1, b3, r3, k3⟩ := collect (by decide) Try.underlying49 hj hy0 hy1 hy2 rfl bl1 rl1 (.bool f) rfl (by omega) (by omega) (by decide)
      have FIN : Hid ((w2.setCell ⟨w.heap.size + 1 + 1 + 1 + 1, 0, none⟩ (.slice (some ⟨gl, 0, none⟩) (acc.length + 1) cl)).heap[Wp.heap.size + 1]? = some (.loop rb) ∧ True ∧
          IAx w.heap.size (w.heap.size + 1 + 1) (w.heap.size + 1 + 1 + 1 + 1) (Wp.heap.size + 1) Wp.heap.size rc (acc ++ [(.slice va vn vc, f)]) ((w2.setCell ⟨w.heap.size + 1 + 1 + 1 + 1, 0, none⟩ (.slice (some ⟨gl, 0, none⟩) (acc.length + 1) cl)).putObj (Wp.heap.size + 1) (.loop rc)) ∧
          Keep (fun b o => Sup w.heap.size Wl.heap.size b o) W1 ((w2.setCell ⟨w.heap.size + 1 + 1 + 1 + 1, 0, none⟩ (.slice (some ⟨gl, 0, none⟩) (acc.length + 1) cl)).putObj (Wp.heap.size + 1) (.loop rc))) := by
        have l2 := k3.same _ _ l1 (by rintro (⟨_, e⟩ | ⟨_, c, e⟩) <;> cases e)
        have d2' := k3.same _ _ d1' (by rintro (⟨_, e⟩ | ⟨_, c, e⟩) <;> cases e)
        have bo2 : Boxed _ _ _ _ := k3.same _ _ b2 (by rintro (⟨_, e⟩ | ⟨_, c, e⟩) <;> cases e)
        have ro2 := k3.row r2 (fun g' c' _ _ => by rintro (⟨_, e⟩ | ⟨_, c, e⟩) <;> cases e)
        have k4 := k1.trans (k3.mono (fun b o h => show Sup w.heap.size Wl.heap.size b o by
          rcases h with ⟨rfl, rfl⟩ | ⟨h1, c, rfl⟩
          · exact ⟨by omega, rfl, .inl rfl⟩
          · exact ⟨h1, rfl, .inl rfl⟩))
        have kp : Keep (fun b o => b = Wp.heap.size + 1 ∧ o = .loop rb) _ ((w2.setCell ⟨w.heap.size + 1 + 1 + 1 + 1, 0, none⟩ (.slice (some ⟨gl, 0, none⟩) (acc.length + 1) cl)).putObj (Wp.heap.size + 1) (.loop rc)) := Keep.putObj l2 ⟨rfl, rfl⟩
        refine ⟨l2, trivial, ⟨⟨_, kp.boxed bo2 (by rintro ⟨_, e⟩; cases e), ?_⟩, ⟨_, kp.boxed b3 (by rintro ⟨_, e⟩; cases e), ?_⟩, World.putObj_heap_same (Array.getElem?_eq_some_iff.1 l2).1, kp.same _ _ d2' (by rintro ⟨e, _⟩; omega)⟩, k4.trans (kp.mono (fun b o h => ?_))⟩
        · have := kp.row ro2 (fun g' c' _ _ => by rintro ⟨_, e⟩; cases e)
          simpa using this
        · have := kp.row r3 (fun g' c' _ _ => by rintro ⟨_, e⟩; cases e)
          simpa using this
        · obtain ⟨rfl, rfl⟩ := h
          exact ⟨c3.1, rfl, .inr c3.2⟩
      clear b2 b3 r2 r3 k3 l1 d1' k1 rl1
      have d1 := fun o => (bl1.alloc o).cell
      have d2 := bl1.cell
      have d3 := fun o => cell_blk (old1 o m1) 0
      have d4 := cell_blk m1 0
      have d5 := b1.cell
      have d6 := b1.frozen
      simp only [List.getElem?_toArray, List.getElem?_cons_zero] at d3 d4
      gi_wp2_with fail
      refine wpIn_region_any (by kernel_rfl) ?_
      change wpAnyIn _ _ _ _ _ _ _ _ _ (World.drew _)
      refine wpAnyIn_ready (rs := [0, 1]) (by kernel_rfl) (by simp) ?_
      refine AllReadyIn.cons rfl (fun K hK => ?_) (AllReadyIn.cons rfl (fun K hK => ?_) AllReadyIn.nil)
      · go_simp
        refine hK _ _ ?_; clear hK K
        refine wpAnyIn_ready (rs := [1]) (by kernel_rfl) (by simp) ?_
        refine AllReadyIn.cons rfl (fun K hK => ?_) AllReadyIn.nil
        go_simp
        refine hK _ _ ?_; clear hK K
        refine wpAnyIn_ready (rs := [2]) (by kernel_rfl) (by simp) ?_
        refine AllReadyIn.cons rfl (fun K hK => ?_) AllReadyIn.nil
        go_simp
        refine hK _ _ ?_; clear hK K
        refine wpAnyIn_ready (rs := [3]) (by kernel_rfl) (by simp) ?_
        refine AllReadyIn.cons rfl (fun K hK => ?_) AllReadyIn.nil
        go_simp
        refine hK _ _ ?_; clear hK K
        refine wpAnyIn_ready (rs := [4]) (by kernel_rfl) (by simp) ?_
        refine AllReadyIn.cons rfl (fun K hK => ?_) AllReadyIn.nil
        go_simp
        refine hK _ _ ?_; clear hK K
        refine wpAnyIn_ready (rs := [5]) (by kernel_rfl) (by simp) ?_
        refine AllReadyIn.cons rfl (fun K hK => ?_) AllReadyIn.nil
        go_simp
        refine hK _ _ ?_; clear hK K
        refine wpAnyIn_ready (rs := [6]) (by kernel_rfl) (by simp) ?_
        refine AllReadyIn.cons rfl (fun K hK => ?_) AllReadyIn.nil
        refine operIn_append_run rfl (.tmp 27) (.tmp 32) 49 rfl rfl rfl hrun ?_
        refine hK _ _ ?_; clear hK K
        simp only [Act.put, List.setIfInBounds_toArray]
        refine wpAnyIn_ready (rs := [7]) (by kernel_rfl) (by simp) ?_
        refine AllReadyIn.cons rfl (fun K hK => ?_) AllReadyIn.nil
        go_simp
        refine hK _ _ ?_; clear hK K
        refine wpAnyIn_done (by kernel_rfl) ?_ _
        exact FIN.out
      · go_simp
        refine hK _ _ ?_; clear hK K
        refine wpAnyIn_ready (rs := [0, 2]) (by kernel_rfl) (by simp) ?_
        refine AllReadyIn.cons rfl (fun K hK => ?_) (AllReadyIn.cons rfl (fun K hK => ?_) AllReadyIn.nil)
        · go_simp
          refine hK _ _ ?_; clear hK K
          refine wpAnyIn_ready (rs := [2]) (by kernel_rfl) (by simp) ?_
          refine AllReadyIn.cons rfl (fun K hK => ?_) AllReadyIn.nil
          go_simp
          refine hK _ _ ?_; clear hK K
          refine wpAnyIn_ready (rs := [3]) (by kernel_rfl) (by simp) ?_
          refine AllReadyIn.cons rfl (fun K hK => ?_) AllReadyIn.nil
          go_simp
          refine hK _ _ ?_; clear hK K
          refine wpAnyIn_ready (rs := [4]) (by kernel_rfl) (by simp) ?_
          refine AllReadyIn.cons rfl (fun K hK => ?_) AllReadyIn.nil
          go_simp
          refine hK _ _ ?_; clear hK K
          refine wpAnyIn_ready (rs := [5]) (by kernel_rfl) (by simp) ?_
          refine AllReadyIn.cons rfl (fun K hK => ?_) AllReadyIn.nil
          go_simp
          refine hK _ _ ?_; clear hK K
          refine wpAnyIn_ready (rs := [6]) (by kernel_rfl) (by simp) ?_
          refine AllReadyIn.cons rfl (fun K hK => ?_) AllReadyIn.nil
          refine operIn_append_run rfl (.tmp 27) (.tmp 32) 49 rfl rfl rfl hrun ?_
          refine hK _ _ ?_; clear hK K
          simp only [Act.put, List.setIfInBounds_toArray]
          refine wpAnyIn_ready (rs := [7]) (by kernel_rfl) (by simp) ?_
          refine AllReadyIn.cons rfl (fun K hK => ?_) AllReadyIn.nil
          go_simp
          refine hK _ _ ?_; clear hK K
          refine wpAnyIn_done (by kernel_rfl) ?_ _
          exact FIN.out
        · go_simp
          refine hK _ _ ?_; clear hK K
          refine wpAnyIn_ready (rs := [0, 3]) (by kernel_rfl) (by simp) ?_
          refine AllReadyIn.cons rfl (fun K hK => ?_) (AllReadyIn.cons rfl (fun K hK => ?_) AllReadyIn.nil)
          · go_simp
            refine hK _ _ ?_; clear hK K
            refine wpAnyIn_ready (rs := [3]) (by kernel_rfl) (by simp) ?_
            refine AllReadyIn.cons rfl (fun K hK => ?_) AllReadyIn.nil
            go_simp
            refine hK _ _ ?_; clear hK K
            refine wpAnyIn_ready (rs := [4]) (by kernel_rfl) (by simp) ?_
            refine AllReadyIn.cons rfl (fun K hK => ?_) AllReadyIn.nil
            go_simp
            refine hK _ _ ?_; clear hK K
            refine wpAnyIn_ready (rs := [5]) (by kernel_rfl) (by simp) ?_
            refine AllReadyIn.cons rfl (fun K hK => ?_) AllReadyIn.nil
            go_simp
            refine hK _ _ ?_; clear hK K
            refine wpAnyIn_ready (rs := [6]) (by kernel_rfl) (by simp) ?_
            refine AllReadyIn.cons rfl (fun K hK => ?_) AllReadyIn.nil
            refine operIn_append_run rfl (.tmp 27) (.tmp 32) 49 rfl rfl rfl hrun ?_
            refine hK _ _ ?_; clear hK K
            simp only [Act.put, List.setIfInBounds_toArray]
            refine wpAnyIn_ready (rs := [7]) (by kernel_rfl) (by simp) ?_
            refine AllReadyIn.cons rfl (fun K hK => ?_) AllReadyIn.nil
            go_simp
            refine hK _ _ ?_; clear hK K
            refine wpAnyIn_done (by kernel_rfl) ?_ _
            exact FIN.out
          · go_simp
            refine hK _ _ ?_; clear hK K
            refine wpAnyIn_ready (rs := [0, 4]) (by kernel_rfl) (by simp) ?_
            refine AllReadyIn.cons rfl (fun K hK => ?_) (AllReadyIn.cons rfl (fun K hK => ?_) AllReadyIn.nil)
            · go_simp
              refine hK _ _ ?_; clear hK K
              refine wpAnyIn_ready (rs := [4]) (by kernel_rfl) (by simp) ?_
              refine AllReadyIn.cons rfl (fun K hK => ?_) AllReadyIn.nil
              go_simp
              refine hK _ _ ?_; clear hK K
              refine wpAnyIn_ready (rs := [5]) (by kernel_rfl) (by simp) ?_
              refine AllReadyIn.cons rfl (fun K hK => ?_) AllReadyIn.nil
              go_simp
              refine hK _ _ ?_; clear hK K
              refine wpAnyIn_ready (rs := [6]) (by kernel_rfl) (by simp) ?_
              refine AllReadyIn.cons rfl (fun K hK => ?_) AllReadyIn.nil
              refine operIn_append_run rfl (.tmp 27) (.tmp 32) 49 rfl rfl rfl hrun ?_
              refine hK _ _ ?_; clear hK K
              simp only [Act.put, List.setIfInBounds_toArray]
              refine wpAnyIn_ready (rs := [7]) (by kernel_rfl) (by simp) ?_
              refine AllReadyIn.cons rfl (fun K hK => ?_) AllReadyIn.nil
              go_simp
              refine hK _ _ ?_; clear hK K
              refine wpAnyIn_done (by kernel_rfl) ?_ _
              exact FIN.out
            · go_simp
              refine hK _ _ ?_; clear hK K
              refine wpAnyIn_ready (rs := [0, 5]) (by kernel_rfl) (by simp) ?_
              refine AllReadyIn.cons rfl (fun K hK => ?_) (AllReadyIn.cons rfl (fun K hK => ?_) AllReadyIn.nil)
              · go_simp
                refine hK _ _ ?_; clear hK K
                refine wpAnyIn_ready (rs := [5]) (by kernel_rfl) (by simp) ?_
                refine AllReadyIn.cons rfl (fun K hK => ?_) AllReadyIn.nil
                go_simp
                refine hK _ _ ?_; clear hK K
                refine wpAnyIn_ready (rs := [6]) (by kernel_rfl) (by simp) ?_
                refine AllReadyIn.cons rfl (fun K hK => ?_) AllReadyIn.nil
                refine operIn_append_run rfl (.tmp 27) (.tmp 32) 49 rfl rfl rfl hrun ?_
                refine hK _ _ ?_; clear hK K
                simp only [Act.put, List.setIfInBounds_toArray]
                refine wpAnyIn_ready (rs := [7]) (by kernel_rfl) (by simp) ?_
                refine AllReadyIn.cons rfl (fun K hK => ?_) AllReadyIn.nil
                go_simp
                refine hK _ _ ?_; clear hK K
                refine wpAnyIn_done (by kernel_rfl) ?_ _
                exact FIN.out
              · go_simp
                refine hK _ _ ?_; clear hK K
                refine wpAnyIn_ready (rs := [0]) (by kernel_rfl) (by simp) ?_
                refine AllReadyIn.cons rfl (fun K hK => ?_) AllReadyIn.nil
                go_simp
                refine hK _ _ ?_; clear hK K
                refine wpAnyIn_ready (rs := [6]) (by kernel_rfl) (by simp) ?_
                refine AllReadyIn.cons rfl (fun K hK => ?_) AllReadyIn.nil
                refine operIn_append_run rfl (.tmp 27) (.tmp 32) 49 rfl rfl rfl hrun ?_
                refine hK _ _ ?_; clear hK K
                simp only [Act.put, List.setIfInBounds_toArray]
                refine wpAnyIn_ready (rs := [7]) (by kernel_rfl) (by simp) ?_
                refine AllReadyIn.cons rfl (fun K hK => ?_) AllReadyIn.nil
                go_simp
                refine hK _ _ ?_; clear hK K
                refine wpAnyIn_done (by kernel_rfl) ?_ _
                exact FIN.out
  case done =>
    rename_i Q' K hK
    rintro e W2 ⟨⟨v0, rfl⟩, vs, v, ⟨⟨vo, a1, a2⟩, ⟨vl, a3, a4⟩, a5, a6⟩, hrows, hfr⟩
    refine ⟨⟨_, rfl⟩, a5, fun rc' => ?_⟩
    refine hK _ _ ?_
    clear hK K HRC hl0 hd0 q1' q2' q3' q4' q5' q6' q7' q8'
    have kp : Keep (fun b o => b = Wp.heap.size + 1 ∧ o = .loop rc) _ (W2.putObj (Wp.heap.size + 1) (.loop rc')) := Keep.putObj a5 ⟨rfl, rfl⟩
    have bo : Boxed _ _ _ _ := kp.boxed a1 (by rintro ⟨_, e⟩; cases e)
    have bl : Boxed _ _ _ _ := kp.boxed a3 (by rintro ⟨_, e⟩; cases e)
    have ro := kp.row a2 (fun g' c' _ _ => by rintro ⟨_, e⟩; cases e)
    have rl := kp.row a4 (fun g' c' _ _ => by rintro ⟨_, e⟩; cases e)
    have dd := kp.same _ _ a6 (by rintro ⟨_, e⟩; cases e)
    have rr := hrows.keep kp (fun g' c' _ _ => by rintro ⟨_, e⟩; cases e)
    have hb := (((kl0.mono (fun _ _ f => f.elim)).trans (hfr.mono (fun b o h => show w.heap.size ≤ b by
      rcases h with h | h
      · exact h.1
      · omega))).trans (kp.mono (fun b o h => show w.heap.size ≤ b by obtain ⟨rfl, _⟩ := h; omega))).below (Nat.le_refl _) (fun b o h => h)
    have hws : w.heap.size ≤ Wp.heap.size := by omega
    have hk := kp.size
    clear a1 a2 a3 a4 a5 a6 kp hfr hrows kl0 q9 hsz
    generalize World.putObj _ _ _ = Y at *
    have d1 := bo.cell
    have d2 := bl.cell
    go_wp2_with fail
    go_quiet (fail)
    go_wp2
    clear d1 d2
    have kq : Keep (fun _ _ => False) Y (Y.drewN nq) := ⟨rfl, rfl, rfl, Nat.le_refl _, fun _ _ h _ => h⟩
    have dq : (Y.drewN nq).heap[Wp.heap.size]? = some (.deferred (some [])) := dd
    have kd : Keep (fun b o => b = Wp.heap.size ∧ o = .deferred (some [])) _ ((Y.drewN nq).putObj Wp.heap.size (.deferred none)) := Keep.putObj dq ⟨rfl, rfl⟩
    have kz := (kq.mono (fun _ _ f => f.elim)).trans kd
    refine leaves_mark dq (results_tmp2 rfl _ _ _) ⟨vo, vl, vs, v, rfl, ?_, ?_, ?_, ?_⟩
    · have := kz.row ro (fun g' c' _ _ => by rintro ⟨_, e⟩; cases e)
      simpa [Function.comp_def] using this
    · have := kz.row rl (fun g' c' _ _ => by rintro ⟨_, e⟩; cases e)
      simpa [Function.comp_def] using this
    · refine (rr.keep kz (fun g' c' _ _ => by rintro ⟨_, e⟩; cases e)).mono ?_
      have := kz.size
      omega
    · exact hb.trans ((kz.mono (fun b o h => show w.heap.size ≤ b by obtain ⟨rfl, _⟩ := h; omega)).below (Nat.le_trans hb.size (Nat.le_refl _)) (fun b o h => h))
end Go.Proofs.Qxb6609287a
