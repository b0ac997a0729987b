/-
  Searching: slices.BinarySearch, sort.Search, the max tree's last and greatest.
-/
import Derived.Test.Qxb6609392aLeaf
namespace Go.Proofs.Qxb6609392a
open Go.RowKit

/-- n integers behind block g. -/
def IntsF (W : World) (g n : Nat) (N : Nat → Int) : Prop := ∀ k, k < n → W.cell? ⟨g, k, none⟩ = some (.int .i64 (N k))

set_option maxHeartbeats 1000000 in
theorem bsearch_any (g n cap : Nat) (N : Nat → Int) (t : Int) (w : World) (h : IntsF w g n N) (hn : n ≤ 100000) (hs : ∀ a b, a ≤ b → b < n → N a ≤ N b) :
    Calls Try.prog 33 #[.slice (some ⟨g, 0, none⟩) n cap, .int .i64 t] w fun e w' => (∃ (i : Nat) (b : Bool), e = .returned (.tuple #[.int .i64 i, .bool b]) ∧ i ≤ n ∧ (∀ k, k < i → N k < t) ∧ (∀ k, i ≤ k → k < n → t ≤ N k)) ∧ w' = w := by
  go_enter Try.func33, Try.ntmps33
  go_wp2
  go_loopw [7, 8] (fun i j wr => ∃ a b : Nat, a ≤ b ∧ b ≤ n ∧ i = .int .i64 a ∧ j = .int .i64 b ∧ (∀ k, k < a → N k < t) ∧ (∀ k, b ≤ k → k < n → t ≤ N k) ∧ wr = w) (fun i j _ => ((intOf j) - (intOf i)).toNat)
  case atStart => exact ⟨0, n, Nat.zero_le _, Nat.le_refl _, rfl, rfl, fun k hk => by omega, fun k hk hk2 => by omega, rfl⟩
  case round =>
    obtain ⟨a, b, hab, hbn, rfl, rfl, hlo, hhi, rfl⟩ := hrel
    have HLO : Hid _ := hlo
    have HHI : Hid _ := hhi
    have HS : Hid _ := hs
    clear hlo hhi
    by_cases hlt : a < b
    · have hc := h ((a + b) / 2) (by omega)
      by_cases hcmp : N ((a + b) / 2) < t
      · go_wp2
        exact ⟨⟨(a + b) / 2 + 1, b, by omega, hbn, by go_num, rfl, fun k hk => by have := HS.out k ((a + b) / 2) (by omega) (by omega); omega, HHI.out, trivial⟩, by simp [intOf]; omega⟩
      · go_wp2
        exact ⟨⟨a, (a + b) / 2, by omega, by omega, rfl, by go_num, HLO.out, fun k hk hk2 => by have := HS.out ((a + b) / 2) k (by omega) (by omega); omega, trivial⟩, by simp [intOf]; omega⟩
    · obtain rfl : a = b := by omega
      by_cases hl : a < n
      · have hc := h a hl
        by_cases he : N a = t
        · go_wp2
          go_returns
          exact ⟨⟨a, _, rfl, hbn, HLO.out, HHI.out⟩, rfl⟩
        · go_wp2
          go_returns
          exact ⟨⟨a, _, rfl, hbn, HLO.out, HHI.out⟩, rfl⟩
      · go_wp2
        go_returns
        exact ⟨⟨a, _, rfl, hbn, HLO.out, HHI.out⟩, rfl⟩
end Go.Proofs.Qxb6609392a
