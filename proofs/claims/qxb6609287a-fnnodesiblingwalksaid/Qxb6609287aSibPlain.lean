import Derived.Laws.BitsAllLaws
import Derived.Laws.Bits64
namespace Go.Proofs.Qxb6609287a

/-- The size of a node of depth d. -/
def stepOf (d : Int) : Int := IntKind.u64.wrap (2 ^ (64 - d).toNat)
/-- The prefix of the i-th node behind. -/
def sibOf (d p i : Int) : Int := IntKind.u64.wrap (p + IntKind.u64.wrap (i * stepOf d))

theorem mul_mod_r (a b n : Int) : a * (b % n) % n = a * b % n := by rw [Int.mul_emod, Int.emod_emod_of_dvd _ ⟨1, by simp⟩, ← Int.mul_emod]
theorem mul_mod_l (a b n : Int) : a % n * b % n = a * b % n := by rw [Int.mul_comm, mul_mod_r, Int.mul_comm]
theorem two64 : (18446744073709551616 : Int) = 2 ^ 64 := by decide
theorem two64N : (18446744073709551616 : Nat) = 2 ^ 64 := by decide

/-- 'wrap (wrap 2^K - 1)' is 2^K - 1, at K = 64 too. -/
theorem low_eq (K : Nat) (h : K ≤ 64) : IntKind.u64.wrap (IntKind.u64.wrap (2 ^ K) - 1) = ((2 ^ K - 1 : Nat) : Int) := by
  rw [IntKind.wrap_u64, IntKind.wrap_u64]
  have hp : 0 < 2 ^ K := Nat.two_pow_pos K
  have hc : ((2 : Int) ^ K) = ((2 ^ K : Nat) : Int) := by simp
  have hle : 2 ^ K ≤ 2 ^ 64 := Nat.pow_le_pow_right (by decide) h
  rw [hc]
  generalize 2 ^ K = x at *
  have h64 : (2 : Nat) ^ 64 = 18446744073709551616 := by decide
  rw [h64] at hle
  omega

theorem and_low (p : Int) (K : Nat) (h : K ≤ 64) (p0 : 0 ≤ p) (p1 : p < 18446744073709551616) :
    bits .and .u64 p ((2 ^ K - 1 : Nat) : Int) = p % 2 ^ K := by
  obtain ⟨P, rfl⟩ := Int.eq_ofNat_of_zero_le p0
  have hp : 0 < 2 ^ K := Nat.two_pow_pos K
  have hle : 2 ^ K ≤ 2 ^ 64 := Nat.pow_le_pow_right (by decide) h
  have h64 : (2 : Nat) ^ 64 = 18446744073709551616 := by decide
  rw [u64_and_nat P (2 ^ K - 1) (by omega) (by omega), Nat.and_two_pow_sub_one_eq_mod]
  simp

theorem or_low (p : Int) (K : Nat) (h : K ≤ 64) (p0 : 0 ≤ p) (p1 : p < 18446744073709551616) (hm : p % 2 ^ K = 0) :
    bits .or .u64 p ((2 ^ K - 1 : Nat) : Int) = p + (2 ^ K - 1) := by
  obtain ⟨P, rfl⟩ := Int.eq_ofNat_of_zero_le p0
  have hp : 0 < 2 ^ K := Nat.two_pow_pos K
  have hle : 2 ^ K ≤ 2 ^ 64 := Nat.pow_le_pow_right (by decide) h
  have h64 : (2 : Nat) ^ 64 = 18446744073709551616 := by decide
  have hm' : P % 2 ^ K = 0 := by exact_mod_cast hm
  rw [u64_or_nat P (2 ^ K - 1) (by omega) (by omega), nat_join K P (2 ^ K - 1) hm' (by omega)]
  have hc : ((2 : Int) ^ K) = ((2 ^ K : Nat) : Int) := by simp
  rw [hc]; omega

theorem stepOf_eq (D K : Nat) (h : D + K = 64) (d : Int) (hd : d = D) : stepOf d = 2 ^ K % 2 ^ 64 := by
  subst hd
  unfold stepOf
  rw [IntKind.wrap_u64, two64, show (64 - (D : Int)).toNat = K from by omega]

/-- The sibling's prefix, plainly. -/
theorem sibOf_eq (D K : Nat) (h : D + K = 64) (p i : Int) : sibOf (D : Int) p i = (p + i * 2 ^ K) % 2 ^ 64 := by
  unfold sibOf
  rw [stepOf_eq D K h _ rfl, IntKind.wrap_u64, IntKind.wrap_u64, two64, Int.add_emod_emod, Int.add_emod, mul_mod_r, ← Int.add_emod]

theorem mask_mod (D K : Nat) (h : D + K = 64) (x : Int) : (x % 2 ^ 64) % 2 ^ D = x % 2 ^ D := by
  apply Int.emod_emod_of_dvd
  exact ⟨2 ^ K, by rw [← Int.pow_add, h]⟩

/-- THE LAW OF THE INDEX: over whatever mask m that is 2^D - 1. -/
theorem index_law (d p i m : Int) (h0 : 0 ≤ d) (h1 : d ≤ 64) (p0 : 0 ≤ p) (p1 : p < 18446744073709551616)
    (hlow : (bits .and .u64 p (IntKind.u64.wrap (IntKind.u64.wrap (2 ^ (64 - d).toNat) - 1)) != 0) = false)
    (hm : m = ((2 ^ d.toNat - 1 : Nat) : Int)) :
    sibOf d p i = IntKind.u64.wrap (bits .and .u64 (IntKind.u64.wrap (p / 2 ^ (64 - d).toNat + i)) m * 2 ^ (64 - d).toNat) := by
  obtain ⟨D, rfl⟩ := Int.eq_ofNat_of_zero_le h0
  obtain ⟨K, hK⟩ : ∃ K, D + K = 64 := ⟨64 - D, by omega⟩
  rw [show (64 - (D : Int)).toNat = K from by omega] at hlow ⊢
  rw [Int.toNat_natCast] at hm
  subst hm
  rw [low_eq K (by omega), and_low p K (by omega) p0 p1] at hlow
  have hz : p % 2 ^ K = 0 := by simpa using hlow
  have hw0 : 0 ≤ IntKind.u64.wrap (p / 2 ^ K + i) ∧ IntKind.u64.wrap (p / 2 ^ K + i) < 18446744073709551616 := by
    rw [IntKind.wrap_u64]; omega
  rw [and_low _ D (by omega) hw0.1 hw0.2, IntKind.wrap_u64, IntKind.wrap_u64, two64, mask_mod D K hK, sibOf_eq D K hK]
  have hpos : (0 : Int) < 2 ^ K := Int.pow_pos (by decide)
  have e64 : (2 : Int) ^ 64 = 2 ^ D * 2 ^ K := by rw [← Int.pow_add, hK]
  have hq : p / 2 ^ K * 2 ^ K = p := Int.ediv_mul_cancel (Int.dvd_of_emod_eq_zero hz)
  rw [e64, Int.mul_comm ((p / 2 ^ K + i) % 2 ^ D) (2 ^ K), ← Int.mul_emod_mul_of_pos _ _ hpos, Int.mul_comm (2 ^ K) (2 ^ D), Int.emod_emod_of_dvd _ ⟨1, by simp⟩, Int.mul_comm (2 ^ K) (p / 2 ^ K + i), Int.add_mul, hq]

theorem and_zero (p : Int) (p0 : 0 ≤ p) (p1 : p < 18446744073709551616) : bits .and .u64 p 0 = 0 := by
  have := and_low p 0 (by omega) p0 p1
  simpa using this
theorem index_law_64 (p i : Int) (p0 : 0 ≤ p) (p1 : p < 18446744073709551616) :
    sibOf 64 p i = IntKind.u64.wrap (bits .and .u64 (IntKind.u64.wrap (p + i)) 18446744073709551615) := by
  have e : IntKind.u64.wrap (IntKind.u64.wrap (2 ^ (64 - 64 : Int).toNat) - 1) = 0 := by decide
  have := index_law 64 p i 18446744073709551615 (by omega) (by omega) p0 p1 (by rw [e, and_zero p p0 p1]; rfl) (by decide)
  simpa using this

/-- THE LAWS OF THE WALK. -/
theorem next_law (d p : Int) (h0 : 0 ≤ d) (h1 : d ≤ 64) (p0 : 0 ≤ p) (p1 : p < 18446744073709551616)
    (hlow : (bits .and .u64 p (IntKind.u64.wrap (IntKind.u64.wrap (2 ^ (64 - d).toNat) - 1)) != 0) = false) :
    sibOf d p 1 = IntKind.u64.wrap (bits .or .u64 p (IntKind.u64.wrap (IntKind.u64.wrap (2 ^ (64 - d).toNat) - 1)) + 1) := by
  obtain ⟨D, rfl⟩ := Int.eq_ofNat_of_zero_le h0
  obtain ⟨K, hK⟩ : ∃ K, D + K = 64 := ⟨64 - D, by omega⟩
  rw [show (64 - (D : Int)).toNat = K from by omega] at hlow ⊢
  rw [low_eq K (by omega), and_low p K (by omega) p0 p1] at hlow
  have hz : p % 2 ^ K = 0 := by simpa using hlow
  rw [low_eq K (by omega), or_low p K (by omega) p0 p1 hz, IntKind.wrap_u64, two64, sibOf_eq D K hK]
  congr 1; omega

theorem sib_sib (d p i j : Int) (h0 : 0 ≤ d) (h1 : d ≤ 64) : sibOf d (sibOf d p i) j = sibOf d p (IntKind.u64.wrap (i + j)) := by
  obtain ⟨D, rfl⟩ := Int.eq_ofNat_of_zero_le h0
  obtain ⟨K, hK⟩ : ∃ K, D + K = 64 := ⟨64 - D, by omega⟩
  rw [sibOf_eq D K hK, sibOf_eq D K hK, sibOf_eq D K hK, IntKind.wrap_u64, two64, Int.emod_add_emod, Int.add_emod p, mul_mod_l, ← Int.add_emod, Int.add_mul, Int.add_assoc]

theorem sib_back (d p i : Int) (h0 : 0 ≤ d) (h1 : d ≤ 64) (p0 : 0 ≤ p) (p1 : p < 18446744073709551616) : sibOf d (sibOf d p i) (IntKind.u64.wrap (0 - i)) = p := by
  have e : IntKind.u64.wrap (i + IntKind.u64.wrap (0 - i)) = 0 := by rw [IntKind.wrap_u64, IntKind.wrap_u64]; omega
  rw [sib_sib d p i _ h0 h1, e]
  obtain ⟨D, rfl⟩ := Int.eq_ofNat_of_zero_le h0
  obtain ⟨K, hK⟩ : ∃ K, D + K = 64 := ⟨64 - D, by omega⟩
  rw [sibOf_eq D K hK, Int.zero_mul, Int.add_zero]
  exact Int.emod_eq_of_lt p0 (by rw [← two64]; exact p1)
end Go.Proofs.Qxb6609287a
