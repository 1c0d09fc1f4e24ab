/- Products of words, Montgomery's reduction, halving, orders, the highest bit: the plain laws. -/
import Derived.Test.YtdjdbacpokclpaaSymT
import Derived.Lib.Mul64
set_option linter.unusedVariables false
set_option linter.unusedSimpArgs false
namespace Go.Sym

/-! ### what the functions come to -/
def mul64F : List Int → List Int
  | [x, y] => [x * y / 18446744073709551616, x * y % 18446744073709551616]
  | _ => []
def madd0F : List Int → List Int
  | [a, b, c] => [(a * b + c) / 18446744073709551616]
  | _ => []
def madd2F : List Int → List Int
  | [a, b, c, d] => [(a * b + c + d) / 18446744073709551616, (a * b + c + d) % 18446744073709551616]
  | _ => []
def redM (q ri X : Int) : Int := (X * ri) % q
def fmF (n : Nat) (q ri : Int) (ins : List Int) : List Int := wds n (redM q ri (val ins))
def halfF (n : Nat) (ins : List Int) : List Int := wds n (val ins / 2)
def regF (n : Nat) (ins : List Int) : List Int := rep (regI n (ins.drop n)) (64 * n) (ins.take n)
def fitsF (ins : List Int) : List Int := [b2i (decide (val ins < 18446744073709551616))]
def isUF (q ri : Int) (ins : List Int) : List Int := [b2i (decide (redM q ri (val ins) < 18446744073709551616))]
def u64F (q ri : Int) (ins : List Int) : List Int := [redM q ri (val ins) % 18446744073709551616]
def ordI (X Y : Int) : Int := if Y < X then 1 else if X < Y then -1 else 0
def cmpF (n : Nat) (q ri : Int) (ins : List Int) : List Int := [ordI (redM q ri (val (ins.take n))) (redM q ri (val (ins.drop n)))]
def blen : Nat → Int → Int
  | 0, _ => 0
  | d + 1, X => if X / 2 ^ d % 2 = 1 then d + 1 else blen d X
def bitsWF (n : Nat) (ins : List Int) : List Int := [blen (64 * n) (val ins)]

/-! ### steps -/
theorem st_mul {x y : Int} : binV .mul .u64 x y = (x * y) % 18446744073709551616 := by simp [binV, IntKind.wrap, IntKind.bits, IntKind.signed]

section
variable {Φ : Nat → List Int → List Int} {ρ : Nat → Int} {a b : E}
theorem sv_mul : I.val Φ ρ (.bin .mul .u64 a b) = (a.den ρ * b.den ρ) % 18446744073709551616 := st_mul
theorem sv_shr32 : I.val Φ ρ (.shr .u64 a (.c 32)) = a.den ρ / 4294967296 := by
  show (a.den ρ).fdiv 4294967296 = _
  exact Int.fdiv_eq_ediv_of_nonneg _ (by decide)
theorem sv_shr1 : I.val Φ ρ (.shr .u64 a (.c 1)) = a.den ρ / 2 := by
  show (a.den ρ).fdiv 2 = _
  exact Int.fdiv_eq_ediv_of_nonneg _ (by decide)
theorem sv_shl63 : I.val Φ ρ (.shl .u64 a (.c 63)) = (a.den ρ * 9223372036854775808) % 18446744073709551616 := by
  simp [I.val, IntKind.wrap, IntKind.bits, IntKind.signed, E.den]
end

theorem mask32 {x z : Int} (hx : 0 ≤ x ∧ x < 18446744073709551616) (h : z = binV .and .u64 x 4294967295) : z = x % 4294967296 := by
  obtain ⟨X, rfl⟩ := Int.eq_ofNat_of_zero_le hx.1
  have e := bits_and_u64_nat X 4294967295 (by omega) (by omega)
  have e1 : X &&& 4294967295 = X % 4294967296 := Nat.and_two_pow_sub_one_eq_mod X 32
  rw [e1] at e
  rw [h]
  exact e

/-- The product of two words by halves. -/
theorem mul64_done {x y x0 x1 y0 y1 w0 t0 w0h t w1 w2 p w1b hh hl w1h hi lo : Int} (hx : 0 ≤ x ∧ x < 18446744073709551616) (hy : 0 ≤ y ∧ y < 18446744073709551616)
    (h2 : x0 = binV .and .u64 x 4294967295) (h3 : x1 = x / 4294967296) (h4 : y0 = binV .and .u64 y 4294967295) (h5 : y1 = y / 4294967296)
    (h6 : w0 = (x0 * y0) % 18446744073709551616) (h7 : t0 = (x1 * y0) % 18446744073709551616) (h8 : w0h = w0 / 4294967296) (h9 : t = (t0 + w0h) % 18446744073709551616) (kt : 0 ≤ t ∧ t < 18446744073709551616)
    (h10 : w1 = binV .and .u64 t 4294967295) (h11 : w2 = t / 4294967296) (h12 : p = (x0 * y1) % 18446744073709551616) (h13 : w1b = (w1 + p) % 18446744073709551616)
    (h14 : hh = (x1 * y1) % 18446744073709551616) (h15 : hl = (hh + w2) % 18446744073709551616) (h16 : w1h = w1b / 4294967296) (h17 : hi = (hl + w1h) % 18446744073709551616)
    (h18 : lo = (x * y) % 18446744073709551616) : [x * y / 18446744073709551616, x * y % 18446744073709551616] = [hi, lo] := by
  have e0 := mask32 hx h2
  have e1 := mask32 hy h4
  have e2 := mask32 kt h10
  obtain ⟨X, rfl⟩ := Int.eq_ofNat_of_zero_le hx.1
  obtain ⟨Y, rfl⟩ := Int.eq_ofNat_of_zero_le hy.1
  obtain ⟨m1, m2, m3, m4⟩ := Go.Lib.mul64_hi X Y (by omega) (by omega)
  have ba := Go.Lib.half_mul_le (a := X / 4294967296) (b := Y / 4294967296) (by omega) (by omega)
  have bb := Go.Lib.half_mul_le (a := X / 4294967296) (b := Y % 4294967296) (by omega) (by omega)
  have bc := Go.Lib.half_mul_le (a := X % 4294967296) (b := Y / 4294967296) (by omega) (by omega)
  have p0 : (X : Int) % 4294967296 = ((X % 4294967296 : Nat) : Int) := by omega
  have p1 : (Y : Int) % 4294967296 = ((Y % 4294967296 : Nat) : Int) := by omega
  have p2 : (X : Int) / 4294967296 = ((X / 4294967296 : Nat) : Int) := by omega
  have p3 : (Y : Int) / 4294967296 = ((Y / 4294967296 : Nat) : Int) := by omega
  have c1 : x0 * y0 = ((X % 4294967296 * (Y % 4294967296) : Nat) : Int) := by rw [e0, e1, p0, p1, Int.natCast_mul]
  have c2 : x1 * y0 = ((X / 4294967296 * (Y % 4294967296) : Nat) : Int) := by rw [h3, e1, p2, p1, Int.natCast_mul]
  have c3 : x0 * y1 = ((X % 4294967296 * (Y / 4294967296) : Nat) : Int) := by rw [e0, h5, p0, p3, Int.natCast_mul]
  have c4 : x1 * y1 = ((X / 4294967296 * (Y / 4294967296) : Nat) : Int) := by rw [h3, h5, p2, p3, Int.natCast_mul]
  have c5 : (X : Int) * Y = ((X * Y : Nat) : Int) := (Int.natCast_mul _ _).symm
  rw [c1] at h6
  rw [c2] at h7
  rw [c3] at h12
  rw [c4] at h14
  rw [c5] at h18 ⊢
  generalize X % 4294967296 * (Y % 4294967296) = d at *
  generalize X / 4294967296 * (Y % 4294967296) = b at *
  generalize X % 4294967296 * (Y / 4294967296) = c at *
  generalize X / 4294967296 * (Y / 4294967296) = a at *
  generalize X * Y = m at *
  have g : hi = (m : Int) / 18446744073709551616 := by
    clear h2 h4 h10 c1 c2 c3 c4 c5 h18 e0 e1 h3 h5 p0 p1 p2 p3
    omega
  rw [g, h18]

theorem prod_le {a b : Int} (ha : 0 ≤ a ∧ a < 18446744073709551616) (hb : 0 ≤ b ∧ b < 18446744073709551616) : 0 ≤ a * b ∧ a * b ≤ 340282366920938463426481119284349108225 := by
  constructor
  · exact Int.mul_nonneg ha.1 hb.1
  · have h1 : a * b ≤ 18446744073709551615 * b := Int.mul_le_mul_of_nonneg_right (by omega) hb.1
    omega

theorem madd0_done {a b c hi lo s cy h' e : Int} (ha : 0 ≤ a ∧ a < 18446744073709551616) (hb : 0 ≤ b ∧ b < 18446744073709551616) (hc : 0 ≤ c ∧ c < 18446744073709551616)
    (h1 : hi = a * b / 18446744073709551616) (h2 : lo = a * b % 18446744073709551616) (r1 : s + 18446744073709551616 * cy = lo + c + 0) (r2 : h' + 18446744073709551616 * e = hi + 0 + cy)
    (ks : 0 ≤ s ∧ s < 18446744073709551616) (kh : 0 ≤ h' ∧ h' < 18446744073709551616) : [(a * b + c) / 18446744073709551616] = [h'] := by
  have hp := prod_le ha hb
  generalize a * b = p at *
  have : (p + c) / 18446744073709551616 = h' := by omega
  rw [this]

theorem madd2_done {a b c d hi lo s1 c1 h1' e1 s2 c2 h2' e2 : Int} (ha : 0 ≤ a ∧ a < 18446744073709551616) (hb : 0 ≤ b ∧ b < 18446744073709551616) (hc : 0 ≤ c ∧ c < 18446744073709551616) (hd : 0 ≤ d ∧ d < 18446744073709551616)
    (h1 : hi = a * b / 18446744073709551616) (h2 : lo = a * b % 18446744073709551616) (r1 : s1 + 18446744073709551616 * c1 = c + d + 0) (r2 : h1' + 18446744073709551616 * e1 = hi + 0 + c1)
    (r3 : s2 + 18446744073709551616 * c2 = lo + s1 + 0) (r4 : h2' + 18446744073709551616 * e2 = h1' + 0 + c2)
    (k1 : 0 ≤ s1 ∧ s1 < 18446744073709551616) (k2 : 0 ≤ h1' ∧ h1' < 18446744073709551616) (k3 : 0 ≤ s2 ∧ s2 < 18446744073709551616) (k4 : 0 ≤ h2' ∧ h2' < 18446744073709551616)
    (j1 : 0 ≤ c1 ∧ c1 ≤ 1) (j2 : 0 ≤ c2 ∧ c2 ≤ 1) : [(a * b + c + d) / 18446744073709551616, (a * b + c + d) % 18446744073709551616] = [h2', s2] := by
  have hp := prod_le ha hb
  generalize a * b = p at *
  have e : (p + c + d) / 18446744073709551616 = h2' := by omega
  have e' : (p + c + d) % 18446744073709551616 = s2 := by omega
  rw [e, e']

/-- The first word of a round falls away. -/
theorem mont_first {m z C q0 qi k : Int} (hm : m = (z * qi) % 18446744073709551616) (hC : C = (m * q0 + z) / 18446744073709551616) (hq : qi * q0 + 1 = 18446744073709551616 * k) : 18446744073709551616 * C = m * q0 + z := by
  have h1 : (m * q0 + z) % 18446744073709551616 = 0 := by
    have h2 : m * q0 + z = (z * k) * 18446744073709551616 + (- (z * qi / 18446744073709551616) * q0) * 18446744073709551616 := by
      have h3 : m = z * qi - 18446744073709551616 * (z * qi / 18446744073709551616) := by omega
      have h4 : z * qi * q0 + z = z * (18446744073709551616 * k) := by rw [← hq, Int.mul_add, Int.mul_one, Int.mul_assoc]
      rw [h3, Int.sub_mul]
      have h5 : z * (18446744073709551616 * k) = z * k * 18446744073709551616 := by rw [Int.mul_comm 18446744073709551616 k, Int.mul_assoc]
      have h6 : 18446744073709551616 * (z * qi / 18446744073709551616) * q0 = (z * qi / 18446744073709551616) * q0 * 18446744073709551616 := by
        rw [Int.mul_assoc, Int.mul_comm 18446744073709551616]
      have h7 : -(z * qi / 18446744073709551616) * q0 * 18446744073709551616 = - ((z * qi / 18446744073709551616) * q0 * 18446744073709551616) := by
        rw [Int.neg_mul, Int.neg_mul]
      omega
    rw [h2, ← Int.add_mul]
    exact Int.mul_emod_left _ _
  omega

theorem mont_word {p z C hi lo : Int} (h1 : hi = (p + z + C) / 18446744073709551616) (h2 : lo = (p + z + C) % 18446744073709551616) : lo + 18446744073709551616 * hi = p + z + C := by omega

theorem fm_done {n : Nat} {q ri X K b nb d : Int} {S D O : List Int} (hq : 0 < q) (hr : (big n * ri) % q = 1 % q) (hX : 0 ≤ X ∧ X < big n) (hK : 0 ≤ K ∧ K < big n) (huS : u64s S) (lS : S.length = n) (huD : u64s D) (lD : D.length = n)
    (h : val S * big n = X + K * q) (hb : (val S < q ∧ b = 1) ∨ (¬ val S < q ∧ b = 0)) (hn : (b = 0 ∧ nb = 1) ∨ (b ≠ 0 ∧ nb = 0)) (hd : val D - d * big n = val S - q) (hO : (nb = 0 ∧ O = S) ∨ (nb ≠ 0 ∧ O = D)) :
    wds n (redM q ri X) = O := by
  have ⟨s0, s1⟩ := val_nonneg huS
  have key := mont_done hq hr hX hK s0 h
  rw [redM, ← key]
  rcases hO with ⟨h1, rfl⟩ | ⟨h1, rfl⟩
  · rw [if_pos (by omega)]
    exact wds_eq huS lS 0 (by omega)
  · rw [if_neg (by omega)]
    exact wds_eq huD lD d (by omega)

theorem half_word {x y o s t : Int} (hx : 0 ≤ x ∧ x < 18446744073709551616) (hs : s = x / 2) (ht : t = (y * 9223372036854775808) % 18446744073709551616) (ho : o = (s + t) % 18446744073709551616) :
    2 * o = x - x % 2 + 18446744073709551616 * (y % 2) := by omega

theorem half_top {x o : Int} (h : o = x / 2) : 2 * o = x - x % 2 := by omega

theorem half_done {n : Nat} {X p : Int} {O : List Int} (hu : u64s O) (hl : O.length = n) (h : 2 * val O = X - p) (hp : p = 0 ∨ p = 1) : wds n (X / 2) = O := wds_eq hu hl 0 (by omega)

theorem red_lt {q ri X : Int} (hq : 0 < q) : 0 ≤ redM q ri X ∧ redM q ri X < q := ⟨Int.emod_nonneg _ (by omega), Int.emod_lt_of_pos _ hq⟩

/-- Behind the reduction the number times a power of two is what there was. -/
theorem red_back {q ri B X : Int} (hr : (B * ri) % q = 1 % q) (hX : 0 ≤ X ∧ X < q) : (redM q ri X * B) % q = X := by
  rw [redM, Int.mul_emod, Int.emod_emod, ← Int.mul_emod, Int.mul_assoc, Int.mul_comm ri B, Int.mul_emod, hr, ← Int.mul_emod, Int.mul_one]
  exact Int.emod_eq_of_lt hX.1 hX.2

theorem big_pow : ∀ n, big n = 2 ^ (64 * n)
  | 0 => rfl
  | n + 1 => by
    rw [big, big_pow n, show 64 * (n + 1) = 64 + 64 * n by omega, Int.pow_add]
    rfl

theorem law_shift_back {n : Nat} {q ri : Int} {a m : List Int} (ha : u64s a) (la : a.length = n) (hA : val a < q) (hm : val m = q) (h2 : 2 * q ≤ big n) (hr : (big n * ri) % q = 1 % q) (hlm : m.length = n) :
    shiftF n (wds n (redM q ri (val a)) ++ m) = a := by
  have ⟨a0, _⟩ := val_nonneg ha
  have hq : 0 < q := by omega
  have hR := red_lt (ri := ri) (X := val a) hq
  have hv : val (wds n (redM q ri (val a))) = redM q ri (val a) := val_wds_of hR.1 (by omega)
  obtain ⟨i1, i2, i3⟩ := rep_shift (n := n) hm h2 (64 * n) (wds n (redM q ri (val a))) (wds_u64s _ _) (wds_length _ _) (by rw [hv]; exact hR.2)
  have e1 : (wds n (redM q ri (val a)) ++ m).take n = wds n (redM q ri (val a)) := by
    rw [List.take_append_of_le_length (by rw [wds_length]; exact Nat.le_refl _), List.take_of_length_le (by rw [wds_length]; exact Nat.le_refl _)]
  have e2 : (wds n (redM q ri (val a)) ++ m).drop n = m := by
    rw [List.drop_append_of_le_length (by rw [wds_length]; exact Nat.le_refl _), List.drop_of_length_le (by rw [wds_length]; exact Nat.le_refl _), List.nil_append]
  rw [shiftF, e1, e2]
  refine val_inj i1 ha (by rw [i2, la]) ?_
  rw [i3, hv, ← big_pow]
  exact red_back hr ⟨a0, hA⟩

theorem law_regular {n : Nat} {q ri : Int} {a m : List Int} (ha : u64s a) (la : a.length = n) (hA : val a < q) (hm : val m = q) (hodd : q % 2 = 1) (hb : q ≤ big n) (hr : (big n * ri) % q = 1 % q) :
    regF n (a ++ m) = wds n (redM q ri (val a)) := by
  have ⟨a0, _⟩ := val_nonneg ha
  have hq : 0 < q := by omega
  obtain ⟨i1, i2, i3, i4⟩ := rep_reg (n := n) hm hodd hq hb (64 * n) a ha la hA
  have e1 : (a ++ m).take n = a := by rw [List.take_append_of_le_length (by omega), List.take_of_length_le (by omega)]
  have e2 : (a ++ m).drop n = m := by rw [List.drop_append_of_le_length (by omega), List.drop_of_length_le (by omega), List.nil_append]
  rw [regF, e1, e2]
  have ⟨v0, _⟩ := val_nonneg i1
  rw [← big_pow] at i4
  have := reg_done hr ⟨v0, i3⟩ i4
  rw [redM, ← this]
  exact (wds_eq i1 i2 0 (by omega)).symm

/-! ### the highest bit -/
theorem blen_le : ∀ (d : Nat) (X : Int), blen d X ≤ d
  | 0, _ => by simp [blen]
  | d + 1, X => by
    rw [blen]
    split
    · omega
    · have := blen_le d X
      omega

theorem blen_64 : ∀ (d : Nat) (X : Int), 64 ≤ d → 0 ≤ X → X < 2 ^ d → (blen d X ≤ 64 ↔ X < 18446744073709551616) := by
  intro d
  induction d with
  | zero => intro X h; omega
  | succ d ih =>
    intro X h h0 h1
    have e : (2 : Int) ^ (d + 1) = 2 * 2 ^ d := by rw [Int.pow_succ, Int.mul_comm]
    have hp : (0 : Int) < 2 ^ d := Int.pow_pos (by decide)
    rw [blen]
    rcases Nat.lt_or_ge d 64 with hd | hd
    · obtain rfl : d = 63 := by omega
      have hX : X < 18446744073709551616 := by simpa using h1
      constructor
      · intro _; exact hX
      · intro _
        split
        · omega
        · have := blen_le 63 X
          omega
    · have h64 : (18446744073709551616 : Int) ≤ 2 ^ d := by
        obtain ⟨e', rfl⟩ := Nat.exists_eq_add_of_le hd
        have h3 : (0 : Int) < 2 ^ e' := Int.pow_pos (by decide)
        rw [Int.pow_add]
        have h4 : (2 : Int) ^ 64 = 18446744073709551616 := by decide
        rw [h4]
        omega
      by_cases hb : X / 2 ^ d % 2 = 1
      · rw [if_pos hb]
        have : 2 ^ d ≤ X := by
          rcases Int.lt_or_le X (2 ^ d) with hc | hc
          · rw [Int.ediv_eq_zero_of_lt h0 hc] at hb
            simp at hb
          · exact hc
        constructor
        · intro hle; omega
        · intro hlt; omega
      · rw [if_neg hb]
        have hlt : X < 2 ^ d := by
          rcases Int.lt_or_le X (2 ^ d) with hc | hc
          · exact hc
          · exfalso
            have q1 : 1 ≤ X / 2 ^ d := by
              have := Int.ediv_le_ediv hp hc
              rwa [Int.ediv_self (by omega)] at this
            have q2 : X / 2 ^ d < 2 := Int.ediv_lt_of_lt_mul hp (by omega)
            omega
        exact ih X hd h0 hlt

end Go.Sym
