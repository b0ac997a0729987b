/-
  Rows of structs and rows that are appended to, as predicates on objects.
-/
import Derived.Test.Qxb6609392aMem
namespace Go.Proofs.Qxb6609392a
open Go.RowKit

/-- A row with room cap whose first cells are L. -/
def AppO (e : TypeId) (cap : Nat) (L : List Value) (o : Obj) : Prop := ∃ cs, o = .cells cs e (0, 0) ∧ L.length ≤ cap ∧ cap ≤ maxLen ∧ cs.size = cap ∧ cs.toList.take L.length = L
theorem AppO.row {W : World} {base b cap : Nat} {e : TypeId} {L : List Value} {o : Obj} (h : W.heap[b]? = some o) (ha : AppO e cap L o) (hb : base ≤ b) : W.ownsRow base e 1 (.slice (some ⟨b, 0, none⟩) L.length cap) L.length L := by
  obtain ⟨cs, rfl, h1, h2, h3, h4⟩ := ha
  exact ⟨by omega, .inr ⟨b, cap, cs, rfl, hb, h, h1, h2, by omega, by rw [Nat.mul_one]; exact h4⟩⟩
theorem AppO.of {W : World} {base b cap n : Nat} {e : TypeId} {L : List Value} (h : W.ownsRow base e 1 (.slice (some ⟨b, 0, none⟩) n cap) n L) : L.length = n ∧ ∃ o, W.heap[b]? = some o ∧ AppO e cap L o := by
  obtain ⟨h1, h2⟩ := h
  have hl : L.length = n := by omega
  rcases h2 with ⟨e1, _⟩ | ⟨g, cap', cs, e1, _, h3, h4, h5, h6, h7⟩
  · cases e1
  · simp only [Value.slice.injEq, Option.some.injEq, Addr.mk.injEq, and_true, true_and] at e1
    obtain ⟨rfl, rfl⟩ := e1
    refine ⟨hl, _, h3, cs, rfl, by omega, h5, by omega, ?_⟩
    rw [hl]; rw [Nat.mul_one] at h7; exact h7
theorem AppO.own {W : World} {b cap : Nat} {e : TypeId} {L : List Value} {o : Obj} {N : Nat → Int} (h : W.heap[b]? = some o) (ha : AppO e cap L o) (hN : ∀ k, k < L.length → L[k]? = some (.int .i64 (N k))) : OwnF W b L.length N := by
  have hr := ha.row (base := 0) h (Nat.zero_le _)
  refine ⟨fun k hk => ?_, fun k _ => hr.frozenAt k⟩
  rw [hr.cellAt k (by omega)]
  exact hN k hk

/-- Rows of structs of five cells: of the first k the third cell is told. -/
def OpsO (n k : Nat) (C : Nat → Int) (o : Obj) : Prop := ∃ cs e, o = .cells cs e (0, 0) ∧ cs.size = n * 5 ∧ ∀ i, i < k → cs[i * 5 + 2]? = some (.int .i64 (C i))
/-- Rows of structs of three cells: the first k are told. -/
def ClsO (n k : Nat) (A B C : Nat → Int) (o : Obj) : Prop := ∃ cs e, o = .cells cs e (0, 0) ∧ cs.size = n * 3 ∧ ∀ i, i < k → cs[i * 3]? = some (.int .i64 (A i)) ∧ cs[i * 3 + 1]? = some (.int .i64 (B i)) ∧ cs[i * 3 + 2]? = some (.int .i64 (C i))

theorem OpsO.set {W : World} {b n k : Nat} {C : Nat → Int} {o : Obj} (h : W.heap[b]? = some o) (ho : OpsO n k C o) (hk : k < n) (v0 v1 v3 v4 : Value) :
    ∃ o', (((((W.setCell ⟨b, k * 5, none⟩ v0).setCell ⟨b, k * 5 + 1, none⟩ v1).setCell ⟨b, k * 5 + 2, none⟩ (.int .i64 (C k))).setCell ⟨b, k * 5 + 3, none⟩ v3).setCell ⟨b, k * 5 + 4, none⟩ v4).heap[b]? = some o' ∧ OpsO n (k + 1) C o' := by
  obtain ⟨cs, e, rfl, hs, hc⟩ := ho
  refine ⟨_, setCell_obj _ (setCell_obj _ (setCell_obj _ (setCell_obj _ (setCell_obj _ h)))), _, e, rfl, by simp [hs], fun i hi => ?_⟩
  by_cases ei : i = k
  · subst ei
    rw [Array.getElem?_setIfInBounds_ne (by omega), Array.getElem?_setIfInBounds_ne (by omega), Array.getElem?_setIfInBounds_self_of_lt (by simp [hs]; omega)]
  · rw [Array.getElem?_setIfInBounds_ne (by omega), Array.getElem?_setIfInBounds_ne (by omega), Array.getElem?_setIfInBounds_ne (by omega), Array.getElem?_setIfInBounds_ne (by omega), Array.getElem?_setIfInBounds_ne (by omega)]
    exact hc i (by omega)
theorem ClsO.set {W : World} {b n k : Nat} {A B C : Nat → Int} {o : Obj} (h : W.heap[b]? = some o) (ho : ClsO n k A B C o) (hk : k < n) :
    ∃ o', (((W.setCell ⟨b, k * 3, none⟩ (.int .i64 (A k))).setCell ⟨b, k * 3 + 1, none⟩ (.int .i64 (B k))).setCell ⟨b, k * 3 + 2, none⟩ (.int .i64 (C k))).heap[b]? = some o' ∧ ClsO n (k + 1) A B C o' := by
  obtain ⟨cs, e, rfl, hs, hc⟩ := ho
  refine ⟨_, setCell_obj _ (setCell_obj _ (setCell_obj _ h)), _, e, rfl, by simp [hs], fun i hi => ?_⟩
  by_cases ei : i = k
  · subst ei
    refine ⟨?_, ?_, ?_⟩
    · rw [Array.getElem?_setIfInBounds_ne (by omega), Array.getElem?_setIfInBounds_ne (by omega), Array.getElem?_setIfInBounds_self_of_lt (by omega)]
    · rw [Array.getElem?_setIfInBounds_ne (by omega), Array.getElem?_setIfInBounds_self_of_lt (by simp [hs]; omega)]
    · rw [Array.getElem?_setIfInBounds_self_of_lt (by simp [hs]; omega)]
  · rw [Array.getElem?_setIfInBounds_ne (by omega), Array.getElem?_setIfInBounds_ne (by omega), Array.getElem?_setIfInBounds_ne (by omega), Array.getElem?_setIfInBounds_ne (by omega), Array.getElem?_setIfInBounds_ne (by omega), Array.getElem?_setIfInBounds_ne (by omega), Array.getElem?_setIfInBounds_ne (by omega), Array.getElem?_setIfInBounds_ne (by omega), Array.getElem?_setIfInBounds_ne (by omega)]
    exact hc i (by omega)
end Go.Proofs.Qxb6609392a
