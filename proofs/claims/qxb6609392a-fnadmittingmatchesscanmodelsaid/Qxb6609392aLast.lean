/-
  The max tree's last.
-/
import Derived.Test.Qxb6609392aTree
namespace Go.Proofs.Qxb6609392a
open Go.RowKit

/-- r is the last number in [fr, to) that is no less than bd, or -1. -/
def LastOk (N : Nat → Int) (p fr to : Nat) (bd r : Int) : Prop :=
  (r = -1 ∧ ∀ i, fr ≤ i → i < to → N (p + i) < bd) ∨ ∃ i : Nat, r = i ∧ fr ≤ i ∧ i < to ∧ bd ≤ N (p + i) ∧ ∀ j, i < j → j < to → N (p + j) < bd
def IsLast (N : Nat → Int) (p fr to : Nat) (bd : Int) (e : Ending) : Prop := ∃ r, e = .returned (.int .i64 r) ∧ LastOk N p fr to bd r
theorem IsLast.none {N : Nat → Int} {p fr to : Nat} {bd : Int} {e : Ending} (he : e = .returned (.int .i64 (-1))) (h : ∀ i, fr ≤ i → i < to → N (p + i) < bd) : IsLast N p fr to bd e := ⟨_, he, .inl ⟨rfl, h⟩⟩

theorem Down.last {N : Nat → Int} {p to : Nat} {bd : Int} {k : Nat} (fr : Nat) (h : bd ≤ N k ∧ k < p + to ∧ ∀ q, k < q → q < p + to → N q < bd) (hk : p ≤ k) :
    (fr ≤ k - p → LastOk N p fr to bd ((k : Int) - p)) ∧ (¬ fr ≤ k - p → LastOk N p fr to bd (-1)) := by
  obtain ⟨h1, h2, h3⟩ := h
  refine ⟨fun hf => .inr ⟨k - p, by omega, hf, by omega, ?_, fun j j1 j2 => h3 (p + j) (by omega) (by omega)⟩, fun hf => .inl ⟨rfl, fun i i1 i2 => h3 (p + i) (by omega) (by omega)⟩⟩
  rwa [show p + (k - p) = k from by omega]

set_option maxHeartbeats 2000000 in
theorem last_any (g p cap fr to : Nat) (N : Nat → Int) (bd : Int) (w : World) (h : IntsF w g (2 * p) N) (ht : Tree p N) (hp : p ≤ 65536) (hto : to ≤ p) (hfr : fr ≤ 65536) :
    Calls Try.prog 30 #[.agg #[.int .i64 p, .slice (some ⟨g, 0, none⟩) (2 * p) cap], .int .i64 fr, .int .i64 to, .int .i64 bd] w fun e w' => IsLast N p fr to bd e ∧ Below w.heap.size w w' := by
  have HT : Hid _ := ht
  have hp1 := ht.pos
  clear ht
  have bx0 : (w.alloc (.cells #[.int .i64 p, .slice (some ⟨g, 0, none⟩) (2 * p) cap] 62)).cell? ⟨w.heap.size, 0, none⟩ = some (.int .i64 p) := by simp [go_sem]
  have bx1 : (w.alloc (.cells #[.int .i64 p, .slice (some ⟨g, 0, none⟩) (2 * p) cap] 62)).cell? ⟨w.heap.size, 1, none⟩ = some (.slice (some ⟨g, 0, none⟩) (2 * p) cap) := by simp [go_sem]
  have hb0 : Below w.heap.size w (w.alloc (.cells #[.int .i64 p, .slice (some ⟨g, 0, none⟩) (2 * p) cap] 62)) := below1 w _
  by_cases hft : fr < to
  · have c0 := cell_alloc_any (h (p + to - 1) (by omega))
    have hd : ¬ to ≤ fr := by omega
    go_enter Try.func30, Try.ntmps30
    by_cases hr0 : N (p + to - 1) < bd
    · go_wp2
      generalize (w.alloc (.cells #[.int .i64 p, .slice (some ⟨g, 0, none⟩) (2 * p) cap] 62)) = W1 at *
      have H1 : Hid _ := h.keep hb0
      have hcl : Climb N p to bd (p + to - 1) := Climb.start HT.out (by omega) hto hr0
      clear h c0
      go_loopw [9] (fun v wr => ∃ k : Nat, v = .int .i64 k ∧ 1 ≤ k ∧ k < 2 * p ∧ Climb N p to bd k ∧ wr = W1) (fun v _ => (intOf v).toNat)
      case atStart => exact ⟨p + to - 1, by go_num, by omega, by omega, hcl, rfl⟩
      case round =>
        clear hcl
        obtain ⟨k, rfl, hk1, hk2, hcl, hwr⟩ := hrel
        have hwr2 := hwr.symm
        subst hwr2
        have HC : Hid (Climb N p to bd k) := hcl
        clear hcl
        by_cases h1 : k = 1
        · subst h1
          have HN : Hid _ := Climb.top HC.out
          go_wp2
          go_returns
          exact ⟨IsLast.none rfl fun i _ i2 => HN.out i i2, hb0⟩
        · have cm := H1.out (k - 1) (by omega)
          by_cases h2 : k % 2 = 0
          · have HU : Hid (Climb N p to bd (k / 2)) := Climb.up HT.out HC.out h1 (.inl h2)
            go_wp2
            exact ⟨⟨k / 2, by go_num, by omega, by omega, HU.out, trivial⟩, by simp [intOf]; omega⟩
          · by_cases h3 : N (k - 1) < bd
            · have HU : Hid (Climb N p to bd (k / 2)) := Climb.up HT.out HC.out h1 (.inr h3)
              go_wp2
              exact ⟨⟨k / 2, by go_num, by omega, by omega, HU.out, trivial⟩, by simp [intOf]; omega⟩
            · have hdn : Down N p to bd (k - 1) := Climb.turn HC.out (by omega) h1 (by omega)
              have hev : (((k : Int) % 2 == 0)) = false := by rw [beq_eq_false_iff_ne]; omega
              have he1 : (((k : Int) == 1)) = false := by rw [beq_eq_false_iff_ne]; omega
              go_wp2
              clear hev he1
              go_loopw [9] (fun v wr => ∃ k : Nat, v = .int .i64 k ∧ 1 ≤ k ∧ k < 2 * p ∧ Down N p to bd k ∧ wr = W1) (fun v _ => 2 * p - (intOf v).toNat)
              case atStart => exact ⟨k - 1, by go_num, by omega, by omega, hdn, rfl⟩
              case round =>
                clear hdn cm
                obtain ⟨m, rfl, hm1, hm2, hdn, rfl⟩ := hrel
                by_cases hm : m < p
                · have cn := H1.out (2 * m + 1) (by omega)
                  obtain ⟨d1, d2⟩ := Down.step HT.out hdn hm hto
                  have D1 : Hid _ := d1
                  have D2 : Hid _ := d2
                  clear d1 d2 hdn
                  by_cases h5 : bd ≤ N (2 * m + 1)
                  · go_wp2
                    exact ⟨⟨2 * m + 1, by go_num, by omega, by omega, D1.out h5, trivial⟩, by simp [intOf]; omega⟩
                  · go_wp2
                    exact ⟨⟨2 * m, by go_num, by omega, by omega, D2.out h5, trivial⟩, by simp [intOf]; omega⟩
                · obtain ⟨e1, e2⟩ := Down.last fr (Down.leaf hdn (by omega)) (by omega)
                  have E1 : Hid _ := e1
                  have E2 : Hid _ := e2
                  clear e1 e2 hdn
                  by_cases hf : fr ≤ m - p
                  · go_wp2
                    go_returns
                    exact ⟨⟨_, rfl, E1.out hf⟩, hb0⟩
                  · go_wp2
                    go_returns
                    exact ⟨⟨_, rfl, E2.out hf⟩, hb0⟩
    · go_wp2
      go_returns
      exact ⟨⟨_, rfl, .inr ⟨to - 1, by omega, by omega, by omega, by rw [show p + (to - 1) = p + to - 1 from by omega]; omega, fun j j1 j2 => by omega⟩⟩, hb0⟩
  · go_enter Try.func30, Try.ntmps30
    go_wp2
    go_returns
    exact ⟨IsLast.none rfl fun i i1 i2 => by omega, hb0⟩
end Go.Proofs.Qxb6609392a
