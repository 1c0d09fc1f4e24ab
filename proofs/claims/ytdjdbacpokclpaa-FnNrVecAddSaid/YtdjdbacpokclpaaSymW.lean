/- What the functions come to, in numbers; the ways' steps as linear facts. -/
import Derived.Test.YtdjdbacpokclpaaSymV
namespace Go.Sym

/-! ### steps as linear facts -/
theorem st_lss {z a b : Int} : (z = b2i (cmpV .lss a b)) = ((a < b ∧ z = 1) ∨ (b ≤ a ∧ z = 0)) := by
  simp only [cmpV, b2i, eq_iff_iff]; by_cases h : a < b <;> simp [h] <;> omega
theorem st_leq {z a b : Int} : (z = b2i (cmpV .leq a b)) = ((a ≤ b ∧ z = 1) ∨ (b < a ∧ z = 0)) := by
  simp only [cmpV, b2i, eq_iff_iff]; by_cases h : a ≤ b <;> simp [h] <;> omega
theorem st_gtr {z a b : Int} : (z = b2i (cmpV .gtr a b)) = ((b < a ∧ z = 1) ∨ (a ≤ b ∧ z = 0)) := by
  simp only [cmpV, b2i, eq_iff_iff]; by_cases h : a > b <;> simp [h] <;> omega
theorem st_geq {z a b : Int} : (z = b2i (cmpV .geq a b)) = ((b ≤ a ∧ z = 1) ∨ (a < b ∧ z = 0)) := by
  simp only [cmpV, b2i, eq_iff_iff]; by_cases h : a ≥ b <;> simp [h] <;> omega
theorem st_eql {z a b : Int} : (z = b2i (cmpV .eql a b)) = ((a = b ∧ z = 1) ∨ (a ≠ b ∧ z = 0)) := by
  simp only [cmpV, b2i, eq_iff_iff]; by_cases h : a = b <;> simp [h]
theorem st_neq {z a b : Int} : (z = b2i (cmpV .neq a b)) = ((a ≠ b ∧ z = 1) ∨ (a = b ∧ z = 0)) := by
  simp only [cmpV, b2i, eq_iff_iff]; by_cases h : a = b <;> simp [h]
theorem st_not {z a : Int} : (z = b2i (a == 0)) = ((a = 0 ∧ z = 1) ∨ (a ≠ 0 ∧ z = 0)) := by
  simp only [b2i, eq_iff_iff]; by_cases h : a = 0 <;> simp [h]
theorem st_beq {z a b : Int} : (z = b2i ((a == 0) == (b == 0))) = (((a = 0 ↔ b = 0) ∧ z = 1) ∨ (¬ (a = 0 ↔ b = 0) ∧ z = 0)) := by
  have e : ((a == 0) == (b == 0)) = decide (a = 0 ↔ b = 0) := by
    have e1 : (a == 0) = decide (a = 0) := rfl
    have e2 : (b == 0) = decide (b = 0) := rfl
    rw [e1, e2]
    by_cases h : a = 0
    · by_cases h' : b = 0
      · rw [decide_eq_true h, decide_eq_true h', decide_eq_true (iff_of_true h h')]; rfl
      · rw [decide_eq_true h, decide_eq_false h', decide_eq_false (fun k => h' (k.mp h))]; rfl
    · by_cases h' : b = 0
      · rw [decide_eq_false h, decide_eq_true h', decide_eq_false (fun k => h (k.mpr h'))]; rfl
      · rw [decide_eq_false h, decide_eq_false h', decide_eq_true (iff_of_false h h')]; rfl
  rw [e]
  simp only [b2i, eq_iff_iff]
  by_cases h : (a = 0 ↔ b = 0) <;> simp [h]
theorem st_dec {z : Int} {p : Prop} [Decidable p] : (z = b2i (decide p)) = ((p ∧ z = 1) ∨ (¬ p ∧ z = 0)) := by
  simp only [b2i, eq_iff_iff]; by_cases h : p <;> simp [h]
theorem st_pick {z c x y : Int} : (z = if (c == 0) = true then y else x) = ((c = 0 ∧ z = y) ∨ (c ≠ 0 ∧ z = x)) := by
  simp only [beq_iff_eq, eq_iff_iff]; by_cases h : c = 0 <;> simp [h]
theorem st_add {x y : Int} : binV .add .u64 x y = (x + y) % 18446744073709551616 := by simp [binV, IntKind.wrap, IntKind.bits, IntKind.signed]
theorem st_sub {x y : Int} : binV .sub .u64 x y = (x - y) % 18446744073709551616 := by simp [binV, IntKind.wrap, IntKind.bits, IntKind.signed]

section
variable {Φ : Nat → List Int → List Int} {ρ : Nat → Int} {z : Int} {a b c : E}
theorem sv_lss : (z = I.val Φ ρ (.cmp .lss a b)) = ((a.den ρ < b.den ρ ∧ z = 1) ∨ (b.den ρ ≤ a.den ρ ∧ z = 0)) := st_lss
theorem sv_leq : (z = I.val Φ ρ (.cmp .leq a b)) = ((a.den ρ ≤ b.den ρ ∧ z = 1) ∨ (b.den ρ < a.den ρ ∧ z = 0)) := st_leq
theorem sv_gtr : (z = I.val Φ ρ (.cmp .gtr a b)) = ((b.den ρ < a.den ρ ∧ z = 1) ∨ (a.den ρ ≤ b.den ρ ∧ z = 0)) := st_gtr
theorem sv_geq : (z = I.val Φ ρ (.cmp .geq a b)) = ((b.den ρ ≤ a.den ρ ∧ z = 1) ∨ (a.den ρ < b.den ρ ∧ z = 0)) := st_geq
theorem sv_eql : (z = I.val Φ ρ (.cmp .eql a b)) = ((a.den ρ = b.den ρ ∧ z = 1) ∨ (a.den ρ ≠ b.den ρ ∧ z = 0)) := st_eql
theorem sv_neq : (z = I.val Φ ρ (.cmp .neq a b)) = ((a.den ρ ≠ b.den ρ ∧ z = 1) ∨ (a.den ρ = b.den ρ ∧ z = 0)) := st_neq
theorem sv_not : (z = I.val Φ ρ (.not a)) = ((a.den ρ = 0 ∧ z = 1) ∨ (a.den ρ ≠ 0 ∧ z = 0)) := st_not
theorem sv_beq : (z = I.val Φ ρ (.beq a b)) = (((a.den ρ = 0 ↔ b.den ρ = 0) ∧ z = 1) ∨ (¬ (a.den ρ = 0 ↔ b.den ρ = 0) ∧ z = 0)) := st_beq
theorem sv_pick : (z = I.val Φ ρ (.pick c a b)) = ((c.den ρ = 0 ∧ z = b.den ρ) ∨ (c.den ρ ≠ 0 ∧ z = a.den ρ)) := st_pick
theorem sv_add : I.val Φ ρ (.bin .add .u64 a b) = (a.den ρ + b.den ρ) % 18446744073709551616 := st_add
theorem sv_sub : I.val Φ ρ (.bin .sub .u64 a b) = (a.den ρ - b.den ρ) % 18446744073709551616 := st_sub
theorem sv_fn {f : Nat} {xs : List E} {j : Nat} : I.val Φ ρ (.fn f xs j) = (Φ f (xs.map (E.den ρ))).getD j 0 := rfl
theorem sv_eqs {xs ys : List E} : (z = I.val Φ ρ (.eqs xs ys)) = ((xs.map (E.den ρ) = ys.map (E.den ρ) ∧ z = 1) ∨ (¬ xs.map (E.den ρ) = ys.map (E.den ρ) ∧ z = 0)) := by
  have : I.val Φ ρ (.eqs xs ys) = b2i (decide (xs.map (E.den ρ) = ys.map (E.den ρ))) := by
    simp only [I.val]
    rw [eqsV_eq]
    congr 1
    rw [Bool.eq_iff_iff, beq_iff_eq, decide_eq_true_eq]
  rw [this, st_dec]
end

/-- A round of an addition, a word at a time. -/
theorem plus_round {a b c x o s p q c' : Int} (ha : 0 ≤ a ∧ a < 18446744073709551616) (hb : 0 ≤ b ∧ b < 18446744073709551616) (hc : c = 0 ∨ c = 1)
    (hx : x = (a + c) % 18446744073709551616) (ho : (x < c ∧ o = 1) ∨ (c ≤ x ∧ o = 0)) (hs : s = (x + b) % 18446744073709551616) (hp : (s < x ∧ p = 1) ∨ (x ≤ s ∧ p = 0))
    (hq : (o = 0 ∧ q = p) ∨ (o ≠ 0 ∧ q = 1)) (hc' : (q = 0 ∧ c' = 0) ∨ (q ≠ 0 ∧ c' = 1)) : s + 18446744073709551616 * c' = a + b + c ∧ (c' = 0 ∨ c' = 1) := by
  omega

theorem lessen_round {a b c x o s p q c' : Int} (ha : 0 ≤ a ∧ a < 18446744073709551616) (hb : 0 ≤ b ∧ b < 18446744073709551616) (hc : c = 0 ∨ c = 1)
    (hx : x = (a - c) % 18446744073709551616) (ho : (a < c ∧ o = 1) ∨ (c ≤ a ∧ o = 0)) (hs : s = (x - b) % 18446744073709551616) (hp : (x < b ∧ p = 1) ∨ (b ≤ x ∧ p = 0))
    (hq : (o = 0 ∧ q = p) ∨ (o ≠ 0 ∧ q = 1)) (hc' : (q = 0 ∧ c' = 0) ∨ (q ≠ 0 ∧ c' = 1)) : s - 18446744073709551616 * c' = a - b - c ∧ (c' = 0 ∨ c' = 1) := by
  omega

theorem plus_done {n : Nat} {a b s : List Int} {c d : Int} (hu : u64s s) (hl : s.length = n) (hv : val s + c * big n = val a + val b) (hc : c = 0 ∨ c = 1) (hd : (c = 1 ∧ d = 1) ∨ (c ≠ 1 ∧ d = 0)) :
    wds n (val a + val b) ++ [b2i (decide (big n ≤ val a + val b))] = s ++ [d] := by
  rw [wds_eq hu hl (-c) (by rw [← hv, Int.neg_mul]; omega)]
  congr 2
  have ⟨g0, g1⟩ := val_nonneg hu
  rw [hl] at g1
  have hb := big_pos n
  have e : d = c := by omega
  subst e
  rw [eq_comm, st_dec]
  rcases hc with rfl | rfl
  · right; omega
  · left; omega

theorem lessen_done {n : Nat} {a b s : List Int} {c d : Int} (hu : u64s s) (hl : s.length = n) (hv : val s - c * big n = val a - val b) (hc : c = 0 ∨ c = 1) (hd : (c = 1 ∧ d = 1) ∨ (c ≠ 1 ∧ d = 0)) :
    wds n (val a - val b) ++ [b2i (decide (val a < val b))] = s ++ [d] := by
  rw [wds_eq hu hl c (by rw [← hv]; omega)]
  congr 2
  have ⟨g0, g1⟩ := val_nonneg hu
  rw [hl] at g1
  have hb := big_pos n
  have e : d = c := by omega
  subst e
  rw [eq_comm, st_dec]
  rcases hc with rfl | rfl
  · right; omega
  · left; omega

theorem u64s_cons {x : Int} {xs : List Int} (h : 0 ≤ x ∧ x < 18446744073709551616) (t : u64s xs) : u64s (x :: xs) := by
  intro y hy
  rcases List.mem_cons.mp hy with rfl | hy
  · exact h
  · exact t y hy

theorem u64s_nil : u64s [] := by intro y hy; simp at hy

theorem dec_one {p : Prop} [Decidable p] {z : Int} (h : (p ∧ z = 1) ∨ (¬ p ∧ z = 0)) : [b2i (decide p)] = [z] := by
  rw [← st_dec] at h
  rw [h]

/-! ### what the functions come to -/
def lessF (n : Nat) (ins : List Int) : List Int := [b2i (decide (val (ins.take n) < val (ins.drop n)))]
def sameF (n : Nat) (ins : List Int) : List Int := [b2i (decide (ins.take n = ins.drop n))]
def primeF (n : Nat) (q : Int) (_ : List Int) : List Int := wds n q
def plusF (n : Nat) (ins : List Int) : List Int := wds n (val (ins.take n) + val (ins.drop n)) ++ [b2i (decide (big n ≤ val (ins.take n) + val (ins.drop n)))]
def lessenF (n : Nat) (ins : List Int) : List Int := wds n (val (ins.take n) - val (ins.drop n)) ++ [b2i (decide (val (ins.take n) < val (ins.drop n)))]

def addM (a b m : Int) : Int := if a + b < m then a + b else a + b - m
def subM (a b m : Int) : Int := if a < b then a - b + m else a - b

def addWF (n : Nat) (ins : List Int) : List Int := wds n (addM (val (ins.take n)) (val ((ins.drop n).take n)) (val (ins.drop (2 * n))))
def subWF (n : Nat) (ins : List Int) : List Int := wds n (subM (val (ins.take n)) (val ((ins.drop n).take n)) (val (ins.drop (2 * n))))

/-- An element: the place that is written comes first. -/
def smallF (q : Int) (ins : List Int) : List Int := [b2i (decide (val ins < q))]
def zeroF (ins : List Int) : List Int := [b2i (decide (val ins = 0))]
def isF (n : Nat) (r : Int) (ins : List Int) : List Int := [b2i (decide (ins = wds n r))]
def setF (n : Nat) (r : Int) (_ : List Int) : List Int := wds n r
def eAdd (n : Nat) (q x y : Int) : Int := if (x + y) % big n < q then x + y else x + y - q
def eNeg (q x : Int) : Int := if x = 0 then 0 else q - x
def eaddF (n : Nat) (q : Int) (ins : List Int) : List Int := wds n (eAdd n q (val ((ins.drop n).take n)) (val (ins.drop (2 * n))))
def esubF (n : Nat) (q : Int) (ins : List Int) : List Int := wds n (subM (val ((ins.drop n).take n)) (val (ins.drop (2 * n))) q)
def enegF (n : Nat) (q : Int) (ins : List Int) : List Int := wds n (eNeg q (val (ins.drop n)))
def edblF (n : Nat) (q : Int) (ins : List Int) : List Int := wds n (eAdd n q (val (ins.drop n)) (val (ins.drop n)))
def mul5F (n : Nat) (q : Int) (ins : List Int) : List Int :=
  let two := wds n (eAdd n q (val ins) (val ins))
  let four := wds n (eAdd n q (val two) (val two))
  wds n (eAdd n q (val four) (val ins))
/-- A sum, so often. -/
def addI (n : Nat) (a m o : List Int) : List Int := wds n (addM (val o) (val a) (val m))
def timesF (n : Nat) (ins : List Int) : List Int :=
  let a := (ins.drop 1).take n
  let m := ins.drop (1 + n)
  addI n a m (addI n a m (addI n a m (addI n a m (addI n a m (List.replicate n 0)))))
def shiftI (n : Nat) (m a : List Int) : List Int := wds n (addM (val a) (val a) (val m))
def rep {α : Type} (f : α → α) : Nat → α → α
  | 0, a => a
  | d + 1, a => rep f d (f a)
def shiftF (n : Nat) (ins : List Int) : List Int := rep (shiftI n (ins.drop n)) (64 * n) (ins.take n)
/-- An array: by value. -/
def aaddF (n : Nat) (q : Int) (ins : List Int) : List Int := wds n (eAdd n q (val (ins.take n)) (val (ins.drop n)))
def asubF (n : Nat) (q : Int) (ins : List Int) : List Int := wds n (subM (val (ins.take n)) (val (ins.drop n)) q)
def anegF (n : Nat) (q : Int) (ins : List Int) : List Int := wds n (eNeg q (val ins))

end Go.Sym
