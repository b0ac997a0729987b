/-
  THE LAWS' OWN HELPERS: zzBytes, tsBytes, seqSize, onlyLastLast.
-/
import Derived.Test.Qxb6609287aPackZZ
namespace Go.Proofs.Qxb6609287a
open Go.RowKit Go.Shelf

/-- The slice value at ao reads as the topics xs. -/
def SrcTS (W : World) (ao : Option Addr) (xs : List Top) : Prop :=
  xs = [] ∨ ∃ b o, ao = some ⟨b, o, none⟩ ∧ ∀ (k : Nat) (x : Top), xs[k]? = some x →
    W.cell? ⟨b, o + k * 3, none⟩ = some (.string x.s) ∧ W.cell? ⟨b, o + k * 3 + 1, none⟩ = some (.int .u64 x.t) ∧ W.cell? ⟨b, o + k * 3 + 2, none⟩ = some (.int .u64 x.h)

/-- It returns some bool. -/
def IsBool (e : Ending) : Prop := ∃ b, e = .returned (.bool b)
theorem IsBool.mk {e : Ending} (b : Bool) (h : e = .returned (.bool b)) : IsBool e := ⟨b, h⟩

set_option maxHeartbeats 1000000 in
/-- zzBytes (17): it answers some bool, the world stands. -/
theorem zzBytes17_any (ao : Option Addr) (cap : Nat) (xs : List Top) (w : World) (h : SrcTS w ao xs) (hl : xs.length ≤ maxLen) (hs : ∀ x ∈ xs, x.s.size ≤ maxLen) :
    Calls Try.prog 17 #[.slice ao xs.length cap] w fun e w' => IsBool e ∧ w' = w := by
  unfold maxLen at hl hs
  by_cases h1 : (1048576 : Int) < (xs.length : Int)
  · go_enter Try.func17, Try.ntmps17
    go_wp2
    go_ret
    exact ⟨.mk _ rfl, rfl⟩
  go_enter Try.func17, Try.ntmps17
  go_wp2
  go_loop [3, 4] (fun n i => ∃ (k : Nat) (m : Int), k ≤ xs.length ∧ i = .int .i64 k ∧ n = .int .i64 m ∧ 0 ≤ m ∧ m ≤ 1048576) (fun _ i => xs.length - (intOf i).toNat)
  case atStart => exact ⟨0, xs.length, Nat.zero_le _, rfl, rfl, by omega, by omega⟩
  case round =>
    obtain ⟨k, m, hk, rfl, rfl, hm0, hm1⟩ := hrel
    by_cases hlt : k < xs.length
    · obtain ⟨x, hx⟩ : ∃ x, xs[k]? = some x := ⟨_, List.getElem?_eq_getElem hlt⟩
      rcases h with rfl | ⟨b, o, rfl, hc⟩
      · simp at hlt
      obtain ⟨c0, _, _⟩ := hc k x hx
      have hsz := hs x (List.mem_of_getElem? hx)
      clear hc hs hx
      go_wp2
      · go_ret
        exact ⟨.mk _ rfl, rfl⟩
      · go_ret
        exact ⟨.mk _ rfl, rfl⟩
      · exact ⟨⟨k + 1, _, by omega, by go_num, rfl, by omega, by omega⟩, by simp [intOf]; omega⟩
    · go_wp2
      go_ret
      exact ⟨.mk _ rfl, rfl⟩

set_option maxHeartbeats 1000000 in
/-- zzBytes (24): it answers some bool, the world stands. -/
theorem zzBytes24_any (ao : Option Addr) (cap : Nat) (kk : Int) (xs : List Top) (w : World) (h : SrcTS w ao xs) (hl : xs.length ≤ maxLen) (hs : ∀ x ∈ xs, x.s.size ≤ maxLen) :
    Calls Try.prog 24 #[.slice ao xs.length cap, .int .i64 kk] w fun e w' => IsBool e ∧ w' = w := by
  unfold maxLen at hl hs
  by_cases h1 : (1048576 : Int) < (xs.length : Int)
  · go_enter Try.func24, Try.ntmps24
    go_wp2
    go_ret
    exact ⟨.mk _ rfl, rfl⟩
  go_enter Try.func24, Try.ntmps24
  go_wp2
  go_loop [5, 6] (fun n i => ∃ (k : Nat) (m : Int), k ≤ xs.length ∧ i = .int .i64 k ∧ n = .int .i64 m ∧ 0 ≤ m ∧ m ≤ 1048576) (fun _ i => xs.length - (intOf i).toNat)
  case atStart => exact ⟨0, xs.length, Nat.zero_le _, rfl, rfl, by omega, by omega⟩
  case round =>
    obtain ⟨k, m, hk, rfl, rfl, hm0, hm1⟩ := hrel
    by_cases hlt : k < xs.length
    · obtain ⟨x, hx⟩ : ∃ x, xs[k]? = some x := ⟨_, List.getElem?_eq_getElem hlt⟩
      rcases h with rfl | ⟨b, o, rfl, hc⟩
      · simp at hlt
      obtain ⟨c0, _, _⟩ := hc k x hx
      have hsz := hs x (List.mem_of_getElem? hx)
      clear hc hs hx
      go_wp2
      · go_ret
        exact ⟨.mk _ rfl, rfl⟩
      · go_ret
        exact ⟨.mk _ rfl, rfl⟩
      · exact ⟨⟨k + 1, _, by omega, by go_num, rfl, by omega, by omega⟩, by simp [intOf]; omega⟩
    · go_wp2
      go_ret
      exact ⟨.mk _ rfl, rfl⟩

/-- What tsBytes tells: a count within the bound bounds the slice and each name. -/
def TsOk (xs : List Top) (r : Int) : Prop := r ≤ 1048576 → xs.length ≤ 32768 ∧ ∀ x ∈ xs, x.s.size ≤ 1048576
def IsCount (xs : List Top) (e : Ending) : Prop := ∃ r, e = .returned (.int .i64 r) ∧ TsOk xs r
theorem IsCount.mk {xs : List Top} {e : Ending} (r : Int) (h : e = .returned (.int .i64 r)) (h2 : TsOk xs r) : IsCount xs e := ⟨r, h, h2⟩

set_option maxHeartbeats 1000000 in
/-- tsBytes. -/
theorem tsBytes_any (ao : Option Addr) (cap : Nat) (xs : List Top) (w : World) (h : SrcTS w ao xs) (hl : xs.length ≤ maxLen) (hs : ∀ x ∈ xs, x.s.size ≤ maxLen) :
    Calls Try.prog 18 #[.slice ao xs.length cap] w fun e w' => IsCount xs e ∧ w' = w := by
  unfold maxLen at hl hs
  by_cases h1 : (32768 : Int) < (xs.length : Int)
  · go_enter Try.func18, Try.ntmps18
    go_wp2
    go_ret
    exact ⟨.mk _ rfl (fun h => by omega), rfl⟩
  go_enter Try.func18, Try.ntmps18
  go_wp2
  go_loop [3, 4] (fun n i => ∃ (k : Nat) (m : Int), k ≤ xs.length ∧ i = .int .i64 k ∧ n = .int .i64 m ∧ 0 ≤ m ∧ m ≤ 1048576 ∧ ∀ x ∈ xs.take k, x.s.size ≤ 1048576) (fun _ i => xs.length - (intOf i).toNat)
  case atStart => exact ⟨0, _, Nat.zero_le _, rfl, rfl, by omega, by omega, by simp⟩
  case round =>
    obtain ⟨k, m, hk, rfl, rfl, hm0, hm1, hall⟩ := hrel
    have HALL : Hid _ := hall
    clear hall
    by_cases hlt : k < xs.length
    · obtain ⟨x, hx⟩ : ∃ x, xs[k]? = some x := ⟨_, List.getElem?_eq_getElem hlt⟩
      rcases h with rfl | ⟨b, o, rfl, hc⟩
      · simp at hlt
      obtain ⟨c0, _, _⟩ := hc k x hx
      have hsz := hs x (List.mem_of_getElem? hx)
      have htk := (take_snoc_at hx).2
      have HTK : Hid _ := htk
      clear hc hs hx htk
      go_wp2
      · go_ret
        exact ⟨.mk _ rfl (fun h => by omega), rfl⟩
      · go_ret
        exact ⟨.mk _ rfl (fun h => by omega), rfl⟩
      · refine ⟨⟨k + 1, _, by omega, by go_num, rfl, by omega, by omega, ?_⟩, by simp [intOf]; omega⟩
        rw [← HTK.out]
        intro y hy
        rcases List.mem_append.1 hy with hy | hy
        · exact HALL.out y hy
        · simp at hy; subst hy; omega
    · obtain rfl : k = xs.length := by omega
      go_wp2
      go_ret
      exact ⟨.mk _ rfl (fun _ => ⟨by omega, by have := HALL.out; rwa [List.take_length] at this⟩), rfl⟩

set_option maxHeartbeats 400000 in
/-- seqSize. -/
theorem seqSize_any (x : Top) (w : World) (hs : x.s.size ≤ 1048576) :
    Calls Try.prog 23 #[x.val] w fun e w' => e = .returned (.int .i64 (x.sz : Nat)) ∧ ∃ c : Array Value, w' = w.alloc (.cells c 58) := by
  obtain ⟨s, t, h⟩ := x
  unfold Top.val Top.sz
  simp only at hs ⊢
  go_enter Try.func23, Try.ntmps23
  go_wp2
  go_ret
  exact ⟨by simp, _, rfl⟩

set_option maxHeartbeats 1000000 in
/-- onlyLastLast: exactly the last is marked. -/
theorem onlyLast_any (g cap base n : Nat) (w : World) (hr : w.ownsRow base 4 1 (.slice (some ⟨g, 0, none⟩) (n + 1) cap) (n + 1) (List.replicate n (.bool false) ++ [.bool true])) (hn : n ≤ 40000) :
    Calls Try.prog 21 #[.slice (some ⟨g, 0, none⟩) (n + 1) cap] w fun e w' => e = .returned (.bool true) ∧ w' = w := by
  have hc : ∀ k, k < n → w.cell? ⟨g, k, none⟩ = some (.bool false) := fun k hk => by
    rw [hr.cellAt k (by omega), List.getElem?_append_left (by simpa using hk)]; simp [hk]
  have hl : w.cell? ⟨g, n, none⟩ = some (.bool true) := by
    rw [hr.cellAt n (by omega), List.getElem?_append_right (by simp)]; simp
  clear hr
  go_enter Try.func21, Try.ntmps21
  go_wp2
  go_loop [3] (fun i => ∃ (k : Nat), k ≤ n + 1 ∧ i = .int .i64 k) (fun i => n + 1 - (intOf i).toNat)
  case atStart => exact ⟨0, Nat.zero_le _, rfl⟩
  case round =>
    obtain ⟨k, hk, rfl⟩ := hrel
    by_cases hlt : k < n
    · have c0 := hc k hlt
      have hb : ((k : Int) == (n : Int)) = false := beq_eq_false_iff_ne.2 (by omega)
      clear hc hl
      go_wp2
      exact ⟨⟨k + 1, by omega, by go_num⟩, by simp [intOf]; omega⟩
    · by_cases he : k = n
      · subst he
        clear hc
        go_wp2
        exact ⟨⟨k + 1, by omega, by go_num⟩, by simp [intOf]⟩
      · obtain rfl : k = n + 1 := by omega
        clear hc hl
        go_wp2
        go_ret
        exact ⟨rfl, rfl⟩
end Go.Proofs.Qxb6609287a
