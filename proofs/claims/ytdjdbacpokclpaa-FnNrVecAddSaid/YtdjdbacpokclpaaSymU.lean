/- Doubling modulo a prime, so often: the plain law of the loop. -/
import Derived.Test.YtdjdbacpokclpaaSymS
import Derived.Test.YtdjdbacpokclpaaSymY
namespace Go.Sym

theorem i64_inc {x : Int} (h0 : -9223372036854775808 ≤ x) (h1 : x < 4096) : binV .add .i64 x 1 = x + 1 := by
  simp only [binV, IntKind.wrap, IntKind.bits, IntKind.signed]
  simp
  split <;> omega

def shStep (n : Nat) (vs : List Int) : List Int :=
  if vs.getD (2 * n) 0 < 64 * n then shiftI n ((vs.drop n).take n) (vs.take n) ++ (vs.drop n).take n ++ [vs.getD (2 * n) 0 + 1, 1] else vs ++ [0]

def shPre (n : Nat) (ins : List Int) : List Int := shiftI n (ins.drop n) (ins.take n) ++ ins.drop n ++ [1]

theorem shift_iter {n : Nat} (m : List Int) (lm : m.length = n) : ∀ (d j : Nat) (a : List Int), a.length = n → j + d = 64 * n →
    iterL (shStep n) (2 * n + 1) (d + 1) (a ++ m ++ [(j : Int)]) = some (rep (shiftI n m) d a ++ m ++ [((64 * n : Nat) : Int)]) := by
  have parts : ∀ (a : List Int) (x : Int), a.length = n → (a ++ m ++ [x]).getD (2 * n) 0 = x ∧ ((a ++ m ++ [x]).drop n).take n = m ∧ (a ++ m ++ [x]).take n = a := fun a x la => by
    refine ⟨?_, ?_, ?_⟩
    · have : (a ++ m).length = 2 * n := by simp; omega
      rw [List.getD_eq_getElem?_getD, List.getElem?_append_right (by omega)]
      simp [this]
    · rw [List.append_assoc, List.drop_append_of_le_length (by omega), List.drop_of_length_le (by omega), List.nil_append, List.take_append_of_le_length (by omega), List.take_of_length_le (by omega)]
    · rw [List.append_assoc, List.take_append_of_le_length (by omega), List.take_of_length_le (by omega)]
  intro d
  induction d with
  | zero =>
    intro j a la hj
    obtain ⟨p1, p2, p3⟩ := parts a j la
    have hlen : (a ++ m ++ [(j : Int)]).length = 2 * n + 1 := by simp; omega
    have hst : shStep n (a ++ m ++ [(j : Int)]) = a ++ m ++ [(j : Int)] ++ [0] := by
      rw [shStep, p1, if_neg (by omega)]
    simp only [iterL, hst]
    have hg : (a ++ m ++ [(j : Int)] ++ [0]).getD (2 * n + 1) 0 = (0 : Int) := by
      rw [List.getD_eq_getElem?_getD, List.getElem?_append_right (by omega), hlen, Nat.sub_self]
      rfl
    rw [hg, if_pos rfl, List.take_append_of_le_length (by omega), List.take_of_length_le (by omega)]
    have : j = 64 * n := by omega
    subst this
    rfl
  | succ d ih =>
    intro j a la hj
    obtain ⟨p1, p2, p3⟩ := parts a j la
    have hst : shStep n (a ++ m ++ [(j : Int)]) = shiftI n m a ++ m ++ [(((j + 1 : Nat)) : Int)] ++ [1] := by
      rw [shStep, p1, if_pos (by omega), p2, p3]
      simp
    have ls : (shiftI n m a).length = n := wds_length _ _
    have hlen : (shiftI n m a ++ m ++ [(((j + 1 : Nat)) : Int)]).length = 2 * n + 1 := by simp; omega
    rw [iterL, hst]
    have hg : (shiftI n m a ++ m ++ [(((j + 1 : Nat)) : Int)] ++ [1]).getD (2 * n + 1) 0 = (1 : Int) := by
      rw [List.getD_eq_getElem?_getD, List.getElem?_append_right (by omega), hlen, Nat.sub_self]
      rfl
    rw [hg, if_neg (by decide), List.take_append_of_le_length (by omega), List.take_of_length_le (by omega)]
    exact ih (j + 1) (shiftI n m a) ls (by omega)

theorem shift_done {n : Nat} (hn : 0 < n) (ins : List Int) (hl : ins.length = 2 * n) :
    ∃ N vf, iterL (shStep n) (2 * n + 1) N (shPre n ins) = some vf ∧ shiftF n ins = vf.take n := by
  have lm : (ins.drop n).length = n := by simp; omega
  have ls : (shiftI n (ins.drop n) (ins.take n)).length = n := wds_length _ _
  refine ⟨_, _, shift_iter (ins.drop n) lm (64 * n - 1) 1 _ ls (by omega), ?_⟩
  have e : 64 * n = (64 * n - 1) + 1 := by omega
  have lr : ∀ (d : Nat) (a : List Int), a.length = n → (rep (shiftI n (ins.drop n)) d a).length = n := by
    intro d
    induction d with
    | zero => intro a h; exact h
    | succ d ih => intro a h; exact ih _ (wds_length _ _)
  rw [List.append_assoc, List.take_append_of_le_length (by rw [lr _ _ ls]; omega), List.take_of_length_le (by rw [lr _ _ ls]; omega)]
  rw [shiftF]
  conv => lhs; rw [e]
  rfl

end Go.Sym
