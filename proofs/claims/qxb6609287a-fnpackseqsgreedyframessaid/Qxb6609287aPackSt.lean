/-
  THE STATE OF THE PACKING, and its steps.
-/
import Derived.Test.Qxb6609287aPackSeq
namespace Go.Proofs.Qxb6609287a
open Go.RowKit Go.Shelf


/-- The kinds of blocks that the consumers' rows and boxes have; the kinds that the packing's own have. -/
def tagA : Obj → Bool
  | .cells _ t _ => t == 48 || t == 49 || t == 52 || t == 4
  | _ => false
def tagC : Obj → Bool
  | .cells _ t _ => t == 60 || t == 78 || t == 3 || t == 83 || t == 84 || t == 85
  | _ => false
/-- The blocks that a consumer may turn: its own. -/
def Sup (n₀ S : Nat) (b : Nat) (o : Obj) : Prop := n₀ ≤ b ∧ tagC o = false ∧ (tagA o = true ∨ b < S)

/-- The rows vs read as the lists ms. -/
def RowsAt (W : World) (n₀ G : Nat) (vs : List Value) (ms : List (List Top)) : Prop :=
  vs.length = ms.length ∧ ∀ (i : Nat) (v : Value) (ts : List Top), vs[i]? = some v → ms[i]? = some ts → W.ownsRow n₀ 60 3 v ts.length (flat ts) ∧ ∀ g, v.ownBlock = some g → g < G

theorem RowsAt.nil (W : World) (n₀ G : Nat) : RowsAt W n₀ G [] [] := ⟨rfl, fun i v ts h => by simp at h⟩
theorem RowsAt.snoc {W : World} {n₀ G : Nat} {vs : List Value} {ms : List (List Top)} {v : Value} {ts : List Top} (h : RowsAt W n₀ G vs ms) (hr : W.ownsRow n₀ 60 3 v ts.length (flat ts)) (hg : ∀ g, v.ownBlock = some g → g < G) :
    RowsAt W n₀ G (vs ++ [v]) (ms ++ [ts]) := by
  refine ⟨by simp [h.1], fun i v' ts' h1 h2 => ?_⟩
  by_cases hi : i < vs.length
  · rw [List.getElem?_append_left hi] at h1
    rw [List.getElem?_append_left (by rw [← h.1]; exact hi)] at h2
    exact h.2 i v' ts' h1 h2
  · have hlt := (List.getElem?_eq_some_iff.1 h1).1
    simp at hlt
    obtain rfl : i = vs.length := by omega
    rw [List.getElem?_append_right (Nat.le_refl _)] at h1
    rw [h.1, List.getElem?_append_right (Nat.le_refl _)] at h2
    simp at h1 h2
    subst h1; subst h2
    exact ⟨hr, hg⟩
theorem RowsAt.mono {W : World} {n₀ G G' : Nat} {vs : List Value} {ms : List (List Top)} (h : RowsAt W n₀ G vs ms) (hG : G ≤ G') : RowsAt W n₀ G' vs ms :=
  ⟨h.1, fun i v ts h1 h2 => ⟨(h.2 i v ts h1 h2).1, fun g hg => Nat.lt_of_lt_of_le ((h.2 i v ts h1 h2).2 g hg) hG⟩⟩
theorem RowsAt.keep {W W' : World} {Z : Nat → Obj → Prop} {n₀ G : Nat} {vs : List Value} {ms : List (List Top)} (h : RowsAt W n₀ G vs ms) (hk : Keep Z W W')
    (hz : ∀ g c, g < G → W.heap[g]? = some (.cells c 60 (0, 0)) → ¬ Z g (.cells c 60 (0, 0))) : RowsAt W' n₀ G vs ms :=
  ⟨h.1, fun i v ts h1 h2 => ⟨hk.row (h.2 i v ts h1 h2).1 (fun g c hg hc => hz g c ((h.2 i v ts h1 h2).2 g hg) hc), (h.2 i v ts h1 h2).2⟩⟩

/-- The packing's state at a world: vs have been handed on (the last in block hb); the message at hand lies in block bm, its topics in v. -/
structure ICx (n₀ lB : Nat) (IB : List Value → Option Nat → World → Prop) (W0 : World) (Bm Bu : Nat) (vs : List Value) (hb : Option Nat) (bm : Nat) (v : Value) (G : Nat) (d : List (List Top)) (c : List Top) (un : Nat) (W : World) : Prop where
  ib : IB vs hb W
  fr : Keep (fun b o => Sup n₀ W0.heap.size b o ∨ W0.heap.size ≤ b) W0 W
  y : Boxed W W0.heap.size 86 (.func (.yield lB) #[] #[])
  m : Boxed W Bm 76 (.pointer (some ⟨bm, 0, none⟩))
  u : Boxed W Bu 3 (.int .i64 (un : Nat))
  msg : W.heap[bm]? = some (.cells #[.bool false, v] 78 (0, 0))
  row : W.ownsRow G 60 3 v c.length (flat c)
  rows : RowsAt W n₀ G vs d
  hn : n₀ ≤ W0.heap.size
  hG : W0.heap.size ≤ G
  hGW : G ≤ W.heap.size
  hbm : W0.heap.size ≤ bm
  hBm : W0.heap.size < Bm
  hBu : W0.heap.size < Bu
  hhb : ∀ b, hb = some b → W0.heap.size ≤ b ∧ b ≠ bm ∧ ∃ cc, W.heap[b]? = some (.cells cc 78 (0, 0))

section
variable {n₀ lB : Nat} {IB : List Value → Option Nat → World → Prop} {W0 : World} {Bm Bu : Nat} {vs : List Value} {hb : Option Nat} {bm : Nat} {v : Value} {G : Nat} {d : List (List Top)} {c : List Top} {un : Nat} {W W' : World}

theorem not_sup_ge {n₀ S b : Nat} {o : Obj} (h : S ≤ b) (ht : tagA o = false) : ¬ Sup n₀ S b o := by
  rintro ⟨_, _, h1 | h1⟩
  · rw [ht] at h1; cases h1
  · omega
theorem not_sup_tag {n₀ S b : Nat} {o : Obj} (ht : tagC o = true) : ¬ Sup n₀ S b o := by
  rintro ⟨_, h1, _⟩
  rw [ht] at h1; cases h1

/-- A step that turns no cells, and nothing that lay ahead of the packing. -/
theorem ICx.other (sB : ∀ vs hb W W', IB vs hb W → Keep (fun b o => ¬ (Sup n₀ W0.heap.size b o ∨ hb = some b)) W W' → IB vs hb W') (h : ICx n₀ lB IB W0 Bm Bu vs hb bm v G d c un W) {Z : Nat → Obj → Prop} (k : Keep Z W W')
    (hz : ∀ b o, W.heap[b]? = some o → Z b o → W0.heap.size ≤ b ∧ o.isCells = false) : ICx n₀ lB IB W0 Bm Bu vs hb bm v G d c un W' := by
  have nz : ∀ (b : Nat) (cc : Array Value) (t : TypeId) (f : Nat × Nat), W.heap[b]? = some (.cells cc t f) → ¬ Z b (.cells cc t f) := fun b cc t f hb hZ => by
    have := (hz b _ hb hZ).2; simp [Obj.isCells] at this
  refine ⟨sB _ _ _ _ h.ib (k.mono' ?_), h.fr.trans (k.mono' (fun b o hb hZ => .inr (hz b o hb hZ).1)), k.boxed h.y (nz _ _ _ _ h.y), k.boxed h.m (nz _ _ _ _ h.m), k.boxed h.u (nz _ _ _ _ h.u), k.same _ _ h.msg (nz _ _ _ _ h.msg),
    k.row h.row (fun g cc _ hg => nz _ _ _ _ hg), h.rows.keep k (fun g cc _ hg => nz _ _ _ _ hg), h.hn, h.hG, Nat.le_trans h.hGW k.size, h.hbm, h.hBm, h.hBu, ?_⟩
  · intro b o hbo hZ hS
    obtain ⟨h1, h2⟩ := hz b o hbo hZ
    rcases hS with hS | rfl
    · refine not_sup_ge h1 ?_ hS
      cases o <;> simp_all [Obj.isCells, tagA]
    · obtain ⟨_, _, cc, h3⟩ := h.hhb b rfl
      rw [h3] at hbo; cases hbo; simp [Obj.isCells] at h2
  · intro b e
    obtain ⟨h1, h2, cc, h3⟩ := h.hhb b e
    exact ⟨h1, h2, cc, k.same _ _ h3 (nz _ _ _ _ h3)⟩

/-- The message is handed on, a new one laid. -/
theorem ICx.fresh (sB : ∀ vs hb W W', IB vs hb W → Keep (fun b o => ¬ (Sup n₀ W0.heap.size b o ∨ hb = some b)) W W' → IB vs hb W') (h : ICx n₀ lB IB W0 Bm Bu vs hb bm v G d c un W) (ib' : IB (vs ++ [v]) (some bm) W') (k : Keep (fun b o => Sup n₀ W0.heap.size b o ∨ hb = some b) W W')
    {W2 : World} {bm' : Nat} (k2 : Keep (fun b _ => b = Bm ∨ b = Bu) W' W2) (hm : Boxed W2 Bm 76 (.pointer (some ⟨bm', 0, none⟩))) (hu : Boxed W2 Bu 3 (.int .i64 ((10 : Nat) : Int))) (hmsg : W2.heap[bm']? = some (.cells #[.bool false, .slice none 0 0] 78 (0, 0))) (hbm' : W'.heap.size ≤ bm') :
    ICx n₀ lB IB W0 Bm Bu (vs ++ [v]) (some bm) bm' (.slice none 0 0) W'.heap.size (d ++ [c]) [] 10 W2 := by
  have nhb : ∀ (b : Nat) (o : Obj), W.heap[b]? = some o → (∀ cc, o ≠ .cells cc 78 (0, 0)) → hb ≠ some b := fun b o hbo ho e => by
    obtain ⟨_, _, cc, h3⟩ := h.hhb b e
    rw [h3] at hbo; cases hbo; exact ho cc rfl
  have hsz : W0.heap.size ≤ W'.heap.size := Nat.le_trans h.fr.size k.size
  have y1 : Boxed W' W0.heap.size 86 (.func (.yield lB) #[] #[]) := k.boxed h.y (by
    rintro (e | e)
    · exact not_sup_ge (Nat.le_refl _) (by rfl) e
    · exact nhb _ _ h.y (fun cc e' => by cases e') e)
  have m1 : Boxed W' Bm 76 (.pointer (some ⟨bm, 0, none⟩)) := k.boxed h.m (by
    rintro (e | e)
    · exact not_sup_ge (Nat.le_of_lt h.hBm) (by rfl) e
    · exact nhb _ _ h.m (fun cc e' => by cases e') e)
  have u1 : Boxed W' Bu 3 (.int .i64 (un : Nat)) := k.boxed h.u (by
    rintro (e | e)
    · exact not_sup_tag (by rfl) e
    · exact nhb _ _ h.u (fun cc e' => by cases e') e)
  have msg1 : W'.heap[bm]? = some (.cells #[.bool false, v] 78 (0, 0)) := k.same _ _ h.msg (by
    rintro (e | e)
    · exact not_sup_tag (by rfl) e
    · exact (h.hhb bm e).2.1 rfl)
  have n60 : ∀ (g : Nat) (cc : Array Value), W.heap[g]? = some (.cells cc 60 (0, 0)) → ¬ (Sup n₀ W0.heap.size g (.cells cc 60 (0, 0)) ∨ hb = some g) := fun g cc hg => by
    rintro (e | e)
    · exact not_sup_tag (by rfl) e
    · exact nhb _ _ hg (fun cc' e' => by cases e') e
  have row1 := k.row h.row (fun g cc _ hg => n60 g cc hg)
  have rows1 := (((h.rows.keep k (fun g cc _ hg => n60 g cc hg)).mono (Nat.le_trans h.hGW k.size)).snoc (ownsRow_base row1 (Nat.le_trans h.hn h.hG)) (fun g hg => (row1.lt g hg).2))
  have m60 : ∀ (g : Nat) (cc : Array Value), W'.heap[g]? = some (.cells cc 60 (0, 0)) → ¬ (g = Bm ∨ g = Bu) := fun g cc hg => by
    rintro (rfl | rfl)
    · rw [show W'.heap[g]? = _ from m1] at hg; simp at hg
    · rw [show W'.heap[g]? = _ from u1] at hg; simp at hg
  have mb : ¬ (bm = Bm ∨ bm = Bu) := by
    rintro (rfl | rfl)
    · rw [show W'.heap[bm]? = _ from m1] at msg1; simp at msg1
    · rw [show W'.heap[bm]? = _ from u1] at msg1; simp at msg1
  refine ⟨sB _ _ _ _ ib' (k2.mono' ?_), (h.fr.trans (k.mono ?_)).trans (k2.mono ?_), k2.boxed y1 ?_, hm, hu, hmsg, World.ownsRow_nil _ _ _ _, rows1.keep k2 (fun g cc _ hg => m60 g cc hg), h.hn, hsz, k2.size, Nat.le_trans hsz hbm', h.hBm, h.hBu, ?_⟩
  · intro b o hbo hZ hS
    rcases hZ with rfl | rfl
    · rw [show W'.heap[b]? = _ from m1] at hbo; cases hbo
      rcases hS with hS | hS
      · exact not_sup_ge (Nat.le_of_lt h.hBm) (by rfl) hS
      · exact mb (.inl (by cases hS; rfl))
    · rw [show W'.heap[b]? = _ from u1] at hbo; cases hbo
      rcases hS with hS | hS
      · exact not_sup_tag (by rfl) hS
      · exact mb (.inr (by cases hS; rfl))
  · rintro b o (e | e)
    · exact .inl e
    · exact .inr (h.hhb b e).1
  · rintro b o (rfl | rfl)
    · exact .inr (Nat.le_of_lt h.hBm)
    · exact .inr (Nat.le_of_lt h.hBu)
  · rintro (e | e)
    · have := h.hBm; omega
    · have := h.hBu; omega
  · intro b e
    cases e
    refine ⟨h.hbm, ?_, _, k2.same _ _ msg1 mb⟩
    have := (Array.getElem?_eq_some_iff.1 msg1).1
    omega

/-- What the consumer does not turn. -/
theorem ICx.stays (h : ICx n₀ lB IB W0 Bm Bu vs hb bm v G d c un W) (k : Keep (fun b o => Sup n₀ W0.heap.size b o ∨ hb = some b) W W') {b : Nat} {o : Obj} (hbo : W.heap[b]? = some o) (h1 : W0.heap.size ≤ b ∧ tagA o = false ∨ tagC o = true) (h2 : ∀ cc, o ≠ .cells cc 78 (0, 0)) : W'.heap[b]? = some o := by
  refine k.same _ _ hbo ?_
  rintro (e | e)
  · rcases h1 with ⟨h1, h3⟩ | h1
    · exact not_sup_ge h1 h3 e
    · exact not_sup_tag h1 e
  · obtain ⟨_, _, cc, h3⟩ := h.hhb b e
    rw [h3] at hbo; cases hbo; exact h2 cc rfl

/-- The last message is handed on. -/
theorem ICx.last (h : ICx n₀ lB IB W0 Bm Bu vs hb bm v G d c un W) (k : Keep (fun b o => Sup n₀ W0.heap.size b o ∨ hb = some b) W W') : RowsAt W' n₀ W'.heap.size (vs ++ [v]) (d ++ [c]) ∧ Keep (fun b o => Sup n₀ W0.heap.size b o ∨ W0.heap.size ≤ b) W0 W' := by
  have n60 : ∀ (g : Nat) (cc : Array Value), W.heap[g]? = some (.cells cc 60 (0, 0)) → ¬ (Sup n₀ W0.heap.size g (.cells cc 60 (0, 0)) ∨ hb = some g) := fun g cc hg => by
    rintro (e | e)
    · exact not_sup_tag (by rfl) e
    · obtain ⟨_, _, cc', h3⟩ := h.hhb g e
      rw [h3] at hg; simp at hg
  have row1 := k.row h.row (fun g cc _ hg => n60 g cc hg)
  refine ⟨((h.rows.keep k (fun g cc _ hg => n60 g cc hg)).mono (Nat.le_trans h.hGW k.size)).snoc (ownsRow_base row1 (Nat.le_trans h.hn h.hG)) (fun g hg => (row1.lt g hg).2), h.fr.trans (k.mono ?_)⟩
  rintro b o (e | e)
  · exact .inl e
  · exact .inr (h.hhb b e).1

/-- A topic is added to the message at hand. -/
theorem ICx.added (sB : ∀ vs hb W W', IB vs hb W → Keep (fun b o => ¬ (Sup n₀ W0.heap.size b o ∨ hb = some b)) W W' → IB vs hb W') (h : ICx n₀ lB IB W0 Bm Bu vs hb bm v G d c un W) {v' : Value} {x : Top} (hmsg : W'.heap[bm]? = some (.cells #[.bool false, v'] 78 (0, 0))) (hrow : W'.ownsRow G 60 3 v' (c.length + 1) (flat c ++ x.cells))
    (k : Keep (fun b _ => b = bm ∨ v.ownBlock = some b) W W') : ICx n₀ lB IB W0 Bm Bu vs hb bm v' G d (c ++ [x]) un W' := by
  have hob : ∀ g, v.ownBlock = some g → G ≤ g ∧ ∃ cc, W.heap[g]? = some (.cells cc 60 (0, 0)) := fun g hg => by
    rcases h.row.2 with ⟨rfl, _⟩ | ⟨g', cap, cur, rfl, hb', hgg, _⟩
    · simp [Value.ownBlock] at hg
    · simp [Value.ownBlock] at hg; subst hg; exact ⟨hb', _, hgg⟩
  have nz : ∀ (b : Nat) (cc : Array Value) (t : TypeId), t ≠ 60 → t ≠ 78 → W.heap[b]? = some (.cells cc t (0, 0)) → ¬ (b = bm ∨ v.ownBlock = some b) := fun b cc t h60 h78 hbo => by
    rintro (rfl | e)
    · rw [h.msg] at hbo; cases hbo; exact h78 rfl
    · obtain ⟨_, cc', h3⟩ := hob b e
      rw [h3] at hbo; cases hbo; exact h60 rfl
  refine ⟨sB _ _ _ _ h.ib (k.mono' ?_), h.fr.trans (k.mono ?_), k.boxed h.y (nz _ _ _ (by decide) (by decide) h.y), k.boxed h.m (nz _ _ _ (by decide) (by decide) h.m), k.boxed h.u (nz _ _ _ (by decide) (by decide) h.u), hmsg, ?_,
    h.rows.keep k ?_, h.hn, h.hG, Nat.le_trans h.hGW k.size, h.hbm, h.hBm, h.hBu, ?_⟩
  · intro b o hbo hZ hS
    rcases hZ with rfl | e
    · rw [h.msg] at hbo; cases hbo
      rcases hS with hS | hS
      · exact not_sup_tag (by rfl) hS
      · exact (h.hhb b hS).2.1 rfl
    · obtain ⟨_, cc', h3⟩ := hob b e
      rw [h3] at hbo; cases hbo
      rcases hS with hS | hS
      · exact not_sup_tag (by rfl) hS
      · obtain ⟨_, _, cc2, h4⟩ := h.hhb b hS
        rw [h3] at h4; simp at h4
  · rintro b o (rfl | e)
    · exact .inr h.hbm
    · exact .inr (Nat.le_trans h.hG (hob b e).1)
  · rw [flat_snoc]; simpa using hrow
  · intro g cc hg hgc
    rintro (rfl | e)
    · rw [h.msg] at hgc; simp at hgc
    · have := (hob g e).1; omega
  · intro b e
    obtain ⟨h1, h2, cc, h3⟩ := h.hhb b e
    refine ⟨h1, h2, cc, k.same _ _ h3 ?_⟩
    rintro (rfl | e')
    · exact h2 rfl
    · obtain ⟨_, cc', h4⟩ := hob b e'
      rw [h3] at h4; simp at h4

/-- The count is set. -/
theorem ICx.counted (sB : ∀ vs hb W W', IB vs hb W → Keep (fun b o => ¬ (Sup n₀ W0.heap.size b o ∨ hb = some b)) W W' → IB vs hb W') (h : ICx n₀ lB IB W0 Bm Bu vs hb bm v G d c un W) (un' : Nat) : ICx n₀ lB IB W0 Bm Bu vs hb bm v G d c un' (W.setCell ⟨Bu, 0, none⟩ (.int .i64 (un' : Nat))) := by
  have k : Keep (fun b _ => b = Bu) W (W.setCell ⟨Bu, 0, none⟩ (.int .i64 (un' : Nat))) := Keep.setCell _ h.u rfl
  have nz : ∀ (b : Nat) (cc : Array Value) (t : TypeId), t ≠ 3 → W.heap[b]? = some (.cells cc t (0, 0)) → ¬ (b = Bu) := fun b cc t h3 hbo e => by
    subst e; rw [show W.heap[b]? = _ from h.u] at hbo; cases hbo; exact h3 rfl
  refine ⟨sB _ _ _ _ h.ib (k.mono' ?_), h.fr.trans (k.mono ?_), k.boxed h.y (nz _ _ _ (by decide) h.y), k.boxed h.m (nz _ _ _ (by decide) h.m), h.u.set _, k.same _ _ h.msg (nz _ _ _ (by decide) h.msg), k.row h.row (fun g cc _ hg => nz _ _ _ (by decide) hg),
    h.rows.keep k (fun g cc _ hg => nz _ _ _ (by decide) hg), h.hn, h.hG, Nat.le_trans h.hGW k.size, h.hbm, h.hBm, h.hBu, ?_⟩
  · rintro b o hbo rfl hS
    rw [show W.heap[b]? = _ from h.u] at hbo; cases hbo
    rcases hS with hS | hS
    · exact not_sup_tag (by rfl) hS
    · obtain ⟨_, _, cc, h3⟩ := h.hhb b hS
      exact nz _ _ _ (by decide) h3 rfl
  · rintro b o rfl
    exact .inr (Nat.le_of_lt h.hBu)
  · intro b e
    obtain ⟨h1, h2, cc, h3⟩ := h.hhb b e
    exact ⟨h1, h2, cc, k.same _ _ h3 (nz _ _ _ (by decide) h3)⟩
end
end Go.Proofs.Qxb6609287a
