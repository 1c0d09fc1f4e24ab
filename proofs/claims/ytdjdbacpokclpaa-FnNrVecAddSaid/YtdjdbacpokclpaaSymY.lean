/- The plain laws that the functions' ways rest on: carries, words, sums and differences modulo a prime. -/
import Derived.Test.YtdjdbacpokclpaaSymW
import Derived.Laws.Bits64
import Derived.Laws.Bits64b
set_option linter.unusedVariables false
set_option linter.unusedSimpArgs false
namespace Go.Sym

theorem get4 {L : List Int} {a b c d : Int} (hl : L.length = 4) (h0 : a = L.getD 0 0) (h1 : b = L.getD 1 0) (h2 : c = L.getD 2 0) (h3 : d = L.getD 3 0) : [a, b, c, d] = L := by
  match L, hl with
  | [_, _, _, _], _ => subst h0 h1 h2 h3; rfl

theorem get6 {L : List Int} {a b c d e f : Int} (hl : L.length = 6) (h0 : a = L.getD 0 0) (h1 : b = L.getD 1 0) (h2 : c = L.getD 2 0) (h3 : d = L.getD 3 0) (h4 : e = L.getD 4 0) (h5 : f = L.getD 5 0) : [a, b, c, d, e, f] = L := by
  match L, hl with
  | [_, _, _, _, _, _], _ => subst h0 h1 h2 h3 h4 h5; rfl

theorem adc {x y c s d : Int} (h0 : s = (x + y + c) % 18446744073709551616) (h1 : d = (x + y + c) / 18446744073709551616) : s + 18446744073709551616 * d = x + y + c := by omega

theorem sbb {x y c s d : Int} (hx : 0 ≤ x ∧ x < 18446744073709551616) (hy : 0 ≤ y ∧ y < 18446744073709551616) (hc : 0 ≤ c ∧ c ≤ 1) (h0 : s = (x - y - c) % 18446744073709551616) (h1 : d = if x < y + c then 1 else 0) :
    s - 18446744073709551616 * d = x - y - c := by
  split at h1 <;> omega

theorem or_zero {x y z : Int} (hx : 0 ≤ x ∧ x < 18446744073709551616) (hy : 0 ≤ y ∧ y < 18446744073709551616) (h : z = binV .or .u64 x y) : z = 0 ↔ x = 0 ∧ y = 0 := by
  obtain ⟨X, rfl⟩ := Int.eq_ofNat_of_zero_le hx.1
  obtain ⟨Y, rfl⟩ := Int.eq_ofNat_of_zero_le hy.1
  have e : binV .or .u64 (X : Int) (Y : Int) = ((X ||| Y : Nat) : Int) := bits_or_u64_nat X Y (by omega) (by omega)
  rw [h, e]
  constructor
  · intro hz
    have : X ||| Y = 0 := by omega
    rw [Nat.or_eq_zero_iff] at this
    omega
  · rintro ⟨h1, h2⟩
    have h1' : X = 0 := by omega
    have h2' : Y = 0 := by omega
    subst h1' h2'
    rfl

theorem xor_zero {x y z : Int} (hx : 0 ≤ x ∧ x < 18446744073709551616) (hy : 0 ≤ y ∧ y < 18446744073709551616) (h : z = binV .xor .u64 x y) : z = 0 ↔ x = y := by
  obtain ⟨X, rfl⟩ := Int.eq_ofNat_of_zero_le hx.1
  obtain ⟨Y, rfl⟩ := Int.eq_ofNat_of_zero_le hy.1
  have e : binV .xor .u64 (X : Int) (Y : Int) = ((X ^^^ Y : Nat) : Int) := bits_xor_u64_nat X Y (by omega) (by omega)
  rw [h, e]
  constructor
  · intro hz
    have h0 : X ^^^ Y = 0 := by omega
    have h1 : (X ^^^ Y) ^^^ Y = X := by rw [Nat.xor_assoc, Nat.xor_self, Nat.xor_zero]
    rw [h0, Nat.zero_xor] at h1
    omega
  · intro hz
    have : X = Y := by omega
    subst this
    simp

theorem wds_add (n : Nat) (X Y : Int) : wds n (val (wds n X) + Y) = wds n (X + Y) := by
  obtain ⟨k, hk⟩ := val_wds n X
  rw [hk, show X + k * big n + Y = X + Y + k * big n by omega, wds_turn]

theorem wds_sub (n : Nat) (X Y : Int) : wds n (val (wds n X) - Y) = wds n (X - Y) := by
  obtain ⟨k, hk⟩ := val_wds n X
  rw [hk, show X + k * big n - Y = X - Y + k * big n by omega, wds_turn]

theorem addW_yes {n : Nat} {a b m : List Int} (ha : u64s a) (hb : u64s b) (hm : u64s m) (lm : m.length = n) (h : big n ≤ val a + val b ∨ ¬ val (wds n (val a + val b)) < val m) :
    wds n (addM (val a) (val b) (val m)) = wds n (val (wds n (val a + val b)) - val m) := by
  have ⟨a0, _⟩ := val_nonneg ha
  have ⟨b0, _⟩ := val_nonneg hb
  have ⟨m0, m1⟩ := val_nonneg hm
  rw [lm] at m1
  rw [wds_sub]
  have : ¬ val a + val b < val m := by
    rcases h with h | h
    · omega
    · intro hlt
      rw [val_wds_of (by omega) (by omega)] at h
      exact h hlt
  rw [addM, if_neg this]

theorem addW_no {n : Nat} {a b m : List Int} (ha : u64s a) (hb : u64s b) (h1 : ¬ big n ≤ val a + val b) (h2 : val (wds n (val a + val b)) < val m) :
    wds n (addM (val a) (val b) (val m)) = wds n (val a + val b) := by
  have ⟨a0, _⟩ := val_nonneg ha
  have ⟨b0, _⟩ := val_nonneg hb
  rw [val_wds_of (by omega) (by omega)] at h2
  rw [addM, if_pos h2]

theorem subW_yes {n : Nat} {a b m : List Int} (h : val a < val b) : wds n (subM (val a) (val b) (val m)) = wds n (val (wds n (val a - val b)) + val m) := by
  rw [wds_add, subM, if_pos h]

theorem subW_no {n : Nat} {a b m : List Int} (h : ¬ val a < val b) : wds n (subM (val a) (val b) (val m)) = wds n (val a - val b) := by
  rw [subM, if_neg h]

theorem add_done {n : Nat} {q X Y c b nb d : Int} {S D O : List Int} (huS : u64s S) (lS : S.length = n) (huD : u64s D) (lD : D.length = n) (hv : val S + c * big n = X + Y) (hb : b = b2i (decide (val S < q)))
    (hn : (b = 0 ∧ nb = 1) ∨ (b ≠ 0 ∧ nb = 0)) (hd : val D - d * big n = val S - q) (hO : (nb = 0 ∧ O = S) ∨ (nb ≠ 0 ∧ O = D)) : wds n (eAdd n q X Y) = O := by
  rw [st_dec] at hb
  have ⟨s0, s1⟩ := val_nonneg huS
  rw [lS] at s1
  have hmod : (X + Y) % big n = val S := by
    rw [← hv, Int.add_mul_emod_self_right, Int.emod_eq_of_lt s0 s1]
  rw [eAdd, hmod]
  rcases hO with ⟨h1, rfl⟩ | ⟨h1, rfl⟩
  · rw [if_pos (by omega)]
    exact wds_eq huS lS (-c) (by rw [Int.neg_mul]; omega)
  · rw [if_neg (by omega)]
    exact wds_eq huD lD (d - c) (by rw [Int.sub_mul]; omega)

theorem sub_done {n : Nat} {q X Y c nb d : Int} {S D O : List Int} (hX : 0 ≤ X ∧ X < big n) (hY : 0 ≤ Y ∧ Y < big n) (huS : u64s S) (lS : S.length = n) (huD : u64s D) (lD : D.length = n) (hc : 0 ≤ c ∧ c ≤ 1) (hv : val S - c * big n = X - Y)
    (hn : (c ≠ 0 ∧ nb = 1) ∨ (c = 0 ∧ nb = 0)) (hd : val D + d * big n = val S + q) (hO : (nb = 0 ∧ O = S) ∨ (nb ≠ 0 ∧ O = D)) : wds n (subM X Y q) = O := by
  have ⟨s0, s1⟩ := val_nonneg huS
  rw [lS] at s1
  have hcc : c = 0 ∨ c = 1 := by omega
  rcases hO with ⟨h1, rfl⟩ | ⟨h1, rfl⟩
  · have hc0 : c = 0 := by omega
    subst hc0
    rw [subM, if_neg (by omega)]
    exact wds_eq huS lS 0 (by omega)
  · have hc1 : c = 1 := by omega
    subst hc1
    rw [subM, if_pos (by omega)]
    exact wds_eq huD lD (1 - d) (by rw [Int.sub_mul]; omega)

theorem val_lt {n : Nat} {a : List Int} (ha : u64s a) (la : a.length = n) : 0 ≤ val a ∧ val a < big n := by
  have := val_nonneg ha
  rwa [la] at this

theorem eAdd_small {n : Nat} {q X Y : Int} (hX : 0 ≤ X ∧ X < q) (hY : 0 ≤ Y ∧ Y < q) (h : 2 * q ≤ big n) : eAdd n q X Y = addM X Y q ∧ 0 ≤ addM X Y q ∧ addM X Y q < q := by
  have : (X + Y) % big n = X + Y := Int.emod_eq_of_lt (by omega) (by omega)
  rw [eAdd, this, addM]
  split <;> omega

theorem addM_mod {q X Y : Int} (hX : 0 ≤ X ∧ X < q) (hY : 0 ≤ Y ∧ Y < q) : addM X Y q = (X + Y) % q := by
  rw [addM]
  split
  · rw [Int.emod_eq_of_lt (by omega) (by omega)]
  · have : X + Y = (X + Y - q) + q := by omega
    rw [this, Int.add_emod_right, Int.emod_eq_of_lt (by omega) (by omega)]
    omega

theorem eNeg_small {q X : Int} (hX : 0 ≤ X ∧ X < q) : 0 ≤ eNeg q X ∧ eNeg q X < q := by
  rw [eNeg]; split <;> omega

/-- Less b the sum is the first. -/
theorem law_sub {n : Nat} {q : Int} {a b : List Int} (ha : u64s a) (la : a.length = n) (hb : u64s b) (hA : val a < q) (hB : val b < q) (h : 2 * q ≤ big n) :
    wds n (subM (val (wds n (eAdd n q (val a) (val b)))) (val b) q) = a := by
  have ⟨a0, _⟩ := val_nonneg ha
  have ⟨b0, _⟩ := val_nonneg hb
  obtain ⟨e1, e2, e3⟩ := eAdd_small (n := n) ⟨a0, hA⟩ ⟨b0, hB⟩ h
  rw [e1, val_wds_of e2 (by omega)]
  have : subM (addM (val a) (val b) q) (val b) q = val a := by
    rw [subM, addM]
    split <;> split <;> omega
  rw [this, ← la]
  exact wds_val ha

theorem wds_zero : ∀ n, wds n 0 = List.replicate n 0
  | 0 => rfl
  | n + 1 => by
    have := wds_zero n
    simp only [wds, List.replicate_succ]
    rw [show (0 : Int) / 18446744073709551616 = 0 by decide, this]
    rfl

theorem law_neg_add {n : Nat} {q : Int} {a : List Int} (ha : u64s a) (hA : val a < q) (h : 2 * q ≤ big n) :
    wds n (eAdd n q (val a) (val (wds n (eNeg q (val a))))) = wds n 0 := by
  have ⟨a0, _⟩ := val_nonneg ha
  have hs := eNeg_small ⟨a0, hA⟩
  rw [val_wds_of hs.1 (by omega), (eAdd_small (n := n) ⟨a0, hA⟩ hs h).1]
  congr 1
  rw [addM, eNeg]
  split <;> split <;> omega

theorem law_neg_neg {n : Nat} {q : Int} {a : List Int} (ha : u64s a) (la : a.length = n) (hA : val a < q) (h : 2 * q ≤ big n) :
    wds n (eNeg q (val (wds n (eNeg q (val a))))) = a := by
  have ⟨a0, _⟩ := val_nonneg ha
  have hs := eNeg_small ⟨a0, hA⟩
  rw [val_wds_of hs.1 (by omega)]
  have : eNeg q (eNeg q (val a)) = val a := by
    rw [eNeg, eNeg]
    split <;> split <;> omega
  rw [this, ← la]
  exact wds_val ha

theorem law_neg_sub {n : Nat} {q : Int} {a : List Int} (ha : u64s a) (hA : val a < q) : wds n (subM 0 (val a) q) = wds n (eNeg q (val a)) := by
  have ⟨a0, _⟩ := val_nonneg ha
  congr 1
  rw [subM, eNeg]
  split <;> split <;> omega

/-- Five times: by doubling, or one by one. -/
theorem law_five {n : Nat} {q : Int} {a m : List Int} (ha : u64s a) (hA : val a < q) (hm : val m = q) (h : 2 * q ≤ big n) (z : List Int) (hz : val z = 0) :
    mul5F n q a = addI n a m (addI n a m (addI n a m (addI n a m (addI n a m z)))) := by
  have ⟨a0, _⟩ := val_nonneg ha
  have hq : 0 < q := by omega
  have rg : ∀ X : Int, 0 ≤ X % q ∧ X % q < q := fun X => ⟨Int.emod_nonneg _ (by omega), Int.emod_lt_of_pos _ hq⟩
  have hA' : val a % q = val a := Int.emod_eq_of_lt a0 hA
  have st : ∀ X : Int, val (wds n (X % q)) = X % q := fun X => val_wds_of (rg X).1 (by have := (rg X).2; omega)
  have ad : ∀ X Y : Int, eAdd n q (X % q) (Y % q) = (X + Y) % q := fun X Y => by
    rw [(eAdd_small (n := n) (rg X) (rg Y) h).1, addM_mod (rg X) (rg Y), Int.emod_add_emod, Int.add_emod_emod]
  have lhs : mul5F n q a = wds n ((val a + val a + (val a + val a) + val a) % q) := by
    have h2 : eAdd n q (val a) (val a) = (val a + val a) % q := by
      have := ad (val a) (val a)
      rwa [hA'] at this
    have h5 : eAdd n q ((val a + val a + (val a + val a)) % q) (val a) = (val a + val a + (val a + val a) + val a) % q := by
      have := ad (val a + val a + (val a + val a)) (val a)
      rwa [hA'] at this
    simp only [mul5F]
    rw [h2, st, ad, st, h5]
  have ai : ∀ (X : Int) (o : List Int), val o = X % q → addI n a m o = wds n ((X + val a) % q) := fun X o ho => by
    rw [addI, ho, hm]
    have := addM_mod (q := q) (rg X) ⟨a0, hA⟩
    rw [this, Int.emod_add_emod]
  rw [lhs, ai 0 z (by rw [hz]; rfl), ai _ _ (st _), ai _ _ (st _), ai _ _ (st _), ai _ _ (st _)]
  congr 2
  omega

end Go.Sym
