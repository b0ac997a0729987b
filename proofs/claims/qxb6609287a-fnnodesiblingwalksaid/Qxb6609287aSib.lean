import Derived.Test.Qxb6609287aRows
import Derived.Test.Qxb6609287aSibPlain
import Derived.WalkKit
import Derived.WalkLawsBesides
import Derived.Deep.RegionHeld3
import Derived.WalkSpells
import Derived.RowKit3
namespace Go.Proofs.Qxb6609287a
open Go.RowKit

set_option maxHeartbeats 400000 in
theorem step_any (d : Int) (w : World) (h0 : 0 ≤ d) (h1 : d ≤ 64) :
    Calls Try.prog 25 #[.int .u8 d] w fun e w' => e = .returned (.int .u64 (stepOf d)) ∧ w' = w := by
  go_enter Try.func25, Try.ntmps25
  go_wp2
  go_ret
  exact ⟨rfl, rfl⟩

set_option maxHeartbeats 400000 in
theorem sib_any (d p i : Int) (w : World) (h0 : 0 ≤ d) (h1 : d ≤ 64) :
    Calls Try.prog 9 #[.agg #[.int .u8 d, .int .u64 p], .int .u64 i] w fun e w' => e = .returned (.agg #[.int .u8 d, .int .u64 (sibOf d p i)]) ∧ ∃ c1 c2 : Array Value, w' = ((w.alloc (.cells c1 25)).alloc (.cells c2 25)).drew := by
  unfold sibOf
  generalize hs : stepOf d = s
  have HS : Hid (stepOf d = s) := hs
  clear hs
  go_enter Try.func9, Try.ntmps9
  go_wp2
  go_region_held3 (fun w' => w'.cell? ⟨w.heap.size, 0, none⟩ = some (.int .u8 d) ∧ w'.cell? ⟨w.heap.size, 1, none⟩ = some (.int .u64 p)) (simp [go_sem, World.cell?_alloc_past])
    (first
      | (go_at_call 25; refine (step_any d _ h0 h1).mono ?_; rw [HS.out]; rintro e w' ⟨rfl, rfl⟩))
  go_wp2
  refine bodyPost_ret (v := .agg #[.int .u8 d, .int .u64 (IntKind.u64.wrap (p + IntKind.u64.wrap (i * s)))]) (by simp [results, Try.results9, go_sem]) rfl ⟨rfl, _, _, rfl⟩
end Go.Proofs.Qxb6609287a
