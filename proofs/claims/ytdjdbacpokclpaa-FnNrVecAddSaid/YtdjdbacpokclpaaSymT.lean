/- Montgomery's reduction, doubling and halving so often: the plain laws. -/
import Derived.Test.YtdjdbacpokclpaaSymY
namespace Go.Sym

theorem mont_done {q rinv B X Z K : Int} (hq : 0 < q) (hr : (B * rinv) % q = 1 % q) (hX : 0 ≤ X ∧ X < B) (hK : 0 ≤ K ∧ K < B) (hZ : 0 ≤ Z) (h : Z * B = X + K * q) : (if Z < q then Z else Z - q) = (X * rinv) % q := by
  have hle : Z ≤ q := by
    rcases Int.lt_or_le q Z with hc | hc
    · exfalso
      have h1 : (q + 1) * B ≤ Z * B := Int.mul_le_mul_of_nonneg_right (by omega) (by omega)
      have h2 : K * q ≤ (B - 1) * q := Int.mul_le_mul_of_nonneg_right (by omega) (by omega)
      rw [Int.add_mul] at h1
      rw [Int.sub_mul] at h2
      have h3 : B * q = q * B := Int.mul_comm _ _
      omega
    · exact hc
  have e : Z % q = (X * rinv) % q := by
    have h3 : Z % q = (Z * (B * rinv)) % q := by
      rw [Int.mul_emod Z (B * rinv), hr, ← Int.mul_emod, Int.mul_one]
    rw [h3, ← Int.mul_assoc, h, Int.add_mul]
    have h4 : K * q * rinv = (K * rinv) * q := by rw [Int.mul_assoc, Int.mul_comm q, ← Int.mul_assoc]
    rw [h4, Int.add_mul_emod_self_right]
  split
  · rw [← e, Int.emod_eq_of_lt (by omega) (by omega)]
  · have hz : Z = q := by omega
    rw [← e, hz, Int.emod_self]
    omega

/-- Doubled so often a number is it times a power of two, modulo the prime. -/
theorem rep_shift {n : Nat} {q : Int} {m : List Int} (hm : val m = q) (h2 : 2 * q ≤ big n) : ∀ (d : Nat) (a : List Int), u64s a → a.length = n → val a < q →
    u64s (rep (shiftI n m) d a) ∧ (rep (shiftI n m) d a).length = n ∧ val (rep (shiftI n m) d a) = (val a * 2 ^ d) % q
  | 0, a, ua, la, ha => ⟨ua, la, by
      have ⟨a0, _⟩ := val_nonneg ua
      simp only [rep, Int.pow_zero, Int.mul_one]
      rw [Int.emod_eq_of_lt a0 ha]⟩
  | d + 1, a, ua, la, ha => by
    have ⟨a0, _⟩ := val_nonneg ua
    have hs := eAdd_small (n := n) (X := val a) (Y := val a) ⟨a0, ha⟩ ⟨a0, ha⟩ h2
    have e1 : val (shiftI n m a) = (val a + val a) % q := by
      rw [shiftI, hm, val_wds_of hs.2.1 (by omega), addM_mod ⟨a0, ha⟩ ⟨a0, ha⟩]
    have hlt : val (shiftI n m a) < q := by rw [e1]; exact Int.emod_lt_of_pos _ (by omega)
    obtain ⟨i1, i2, i3⟩ := rep_shift hm h2 d (shiftI n m a) (wds_u64s _ _) (wds_length _ _) hlt
    refine ⟨i1, i2, ?_⟩
    show val (rep (shiftI n m) d (shiftI n m a)) = _
    have h5 : (val a + val a) % q * 2 ^ d % q = (val a + val a) * 2 ^ d % q := by
      rw [Int.mul_emod, Int.emod_emod, ← Int.mul_emod]
    rw [i3, e1, h5]
    congr 1
    rw [Int.pow_succ, ← Int.two_mul, Int.mul_comm 2 (val a), Int.mul_assoc, Int.mul_comm 2 (2 ^ d)]

def regI (n : Nat) (m a : List Int) : List Int := if val a % 2 = 1 then wds n ((val a + val m) / 2) else wds n (val a / 2)

theorem rep_reg {n : Nat} {q : Int} {m : List Int} (hm : val m = q) (hodd : q % 2 = 1) (hq : 0 < q) (hb : q ≤ big n) : ∀ (d : Nat) (a : List Int), u64s a → a.length = n → val a < q →
    u64s (rep (regI n m) d a) ∧ (rep (regI n m) d a).length = n ∧ val (rep (regI n m) d a) < q ∧ (val (rep (regI n m) d a) * 2 ^ d) % q = val a
  | 0, a, ua, la, ha => ⟨ua, la, ha, by
      have ⟨a0, _⟩ := val_nonneg ua
      simp only [rep, Int.pow_zero, Int.mul_one]
      exact Int.emod_eq_of_lt a0 ha⟩
  | d + 1, a, ua, la, ha => by
    have ⟨a0, _⟩ := val_nonneg ua
    have step : u64s (regI n m a) ∧ (regI n m a).length = n ∧ val (regI n m a) < q ∧ (2 * val (regI n m a)) % q = val a := by
      rw [regI, hm]
      split
      · refine ⟨wds_u64s _ _, wds_length _ _, ?_⟩
        rw [val_wds_of (by omega) (by omega)]
        refine ⟨by omega, ?_⟩
        rw [show 2 * ((val a + q) / 2) = val a + q by omega, Int.add_emod_right]
        exact Int.emod_eq_of_lt a0 ha
      · refine ⟨wds_u64s _ _, wds_length _ _, ?_⟩
        rw [val_wds_of (by omega) (by omega)]
        refine ⟨by omega, ?_⟩
        rw [show 2 * (val a / 2) = val a by omega]
        exact Int.emod_eq_of_lt a0 ha
    obtain ⟨i1, i2, i3, i4⟩ := rep_reg hm hodd hq hb d (regI n m a) step.1 step.2.1 step.2.2.1
    refine ⟨i1, i2, i3, ?_⟩
    show (val (rep (regI n m) d (regI n m a)) * 2 ^ (d + 1)) % q = val a
    have e : val (rep (regI n m) d (regI n m a)) * 2 ^ (d + 1) = 2 * (val (rep (regI n m) d (regI n m a)) * 2 ^ d) := by
      rw [Int.pow_succ, ← Int.mul_assoc, Int.mul_comm]
    rw [e, Int.mul_emod, i4, ← step.2.2.2]
    rw [Int.mul_emod 2 (val (regI n m a)) q]
    congr 2
    have ⟨r0, _⟩ := val_nonneg step.1
    exact (Int.emod_eq_of_lt r0 step.2.2.1).symm

/-- The regular form is told by what it is times a power of two. -/
theorem reg_done {q rinv B A v : Int} (hr : (B * rinv) % q = 1 % q) (hv : 0 ≤ v ∧ v < q) (h : (v * B) % q = A) : v = (A * rinv) % q := by
  have h1 : v % q = (v * (B * rinv)) % q := by
    rw [Int.mul_emod v (B * rinv), hr, ← Int.mul_emod, Int.mul_one]
  rw [← Int.mul_assoc] at h1
  rw [Int.mul_emod (v * B) rinv, h] at h1
  have h2 : (A * rinv) % q = ((A * (rinv % q)) % q) := by
    rw [Int.mul_emod A rinv, Int.mul_emod A (rinv % q), Int.emod_emod]
  rw [h2, ← h1, Int.emod_eq_of_lt hv.1 hv.2]

end Go.Sym
