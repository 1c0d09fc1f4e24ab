/- Carries, rounds and halves in a chain; halving modulo a prime, so often: the plain laws. -/
import Derived.Test.YtmhgmobbifaeiaaSymU
import Derived.Test.YtmhgmobbifaeiaaSymAb
namespace Go.Sym

theorem yes_of {p r : Prop} {z : Int} (h : (p ∧ z = 1) ∨ (r ∧ z = 0)) (hz : z ≠ 0) : p := by
  rcases h with ⟨h, _⟩ | ⟨_, h⟩
  · exact h
  · exact absurd h hz
theorem no_of {p r : Prop} {z : Int} (h : (p ∧ z = 1) ∨ (r ∧ z = 0)) (hz : z = 0) : r := by
  rcases h with ⟨_, h⟩ | ⟨h, _⟩
  · rw [hz] at h; cases h
  · exact h

theorem mont_round4 {m h0 h1 h2 h3 l1 l2 l3 z0 z1 z2 z3 q0 q1 q2 q3 : Int} (p0 : 18446744073709551616 * h0 = m * q0 + z0) (p1 : l1 + 18446744073709551616 * h1 = m * q1 + z1 + h0) (p2 : l2 + 18446744073709551616 * h2 = m * q2 + z2 + h1) (p3 : l3 + 18446744073709551616 * h3 = m * q3 + z3 + h2) :
    18446744073709551616 * val [l1, l2, l3, h3] = val [z0, z1, z2, z3] + m * val [q0, q1, q2, q3] := by
  simp only [val, Int.mul_add, Int.mul_zero, Int.mul_left_comm m 18446744073709551616]
  generalize m * q0 = t0 at *
  generalize m * q1 = t1 at *
  generalize m * q2 = t2 at *
  generalize m * q3 = t3 at *
  omega

theorem mont_all4 {q m0 m1 m2 m3 v0 v1 v2 v3 v4 : Int} (e0 : 18446744073709551616 * v1 = v0 + m0 * q) (e1 : 18446744073709551616 * v2 = v1 + m1 * q) (e2 : 18446744073709551616 * v3 = v2 + m2 * q) (e3 : 18446744073709551616 * v4 = v3 + m3 * q) : v4 * big 4 = v0 + val [m0, m1, m2, m3] * q := by
  simp only [val, big, Int.add_mul, Int.mul_assoc, Int.zero_mul, Int.mul_zero, Int.add_zero]
  generalize m0 * q = t0 at *
  generalize m1 * q = t1 at *
  generalize m2 * q = t2 at *
  generalize m3 * q = t3 at *
  omega

theorem sub_chain4 {s0 s1 s2 s3 d0 d1 d2 d3 b0 b1 b2 b3 q0 q1 q2 q3 : Int} (r0 : d0 - 18446744073709551616 * b0 = s0 - q0 - 0) (r1 : d1 - 18446744073709551616 * b1 = s1 - q1 - b0) (r2 : d2 - 18446744073709551616 * b2 = s2 - q2 - b1) (r3 : d3 - 18446744073709551616 * b3 = s3 - q3 - b2) : val [d0, d1, d2, d3] - b3 * big 4 = val [s0, s1, s2, s3] - val [q0, q1, q2, q3] := by
  simp only [val, big]
  omega

theorem half_chain4 {x0 x1 x2 x3 o0 o1 o2 o3 : Int} (p0 : 2 * o0 = x0 - x0 % 2 + 18446744073709551616 * (x1 % 2)) (p1 : 2 * o1 = x1 - x1 % 2 + 18446744073709551616 * (x2 % 2)) (p2 : 2 * o2 = x2 - x2 % 2 + 18446744073709551616 * (x3 % 2)) (p3 : 2 * o3 = x3 - x3 % 2) : 2 * val [o0, o1, o2, o3] = val [x0, x1, x2, x3] - x0 % 2 := by
  generalize x0 % 2 = t0 at *
  generalize x1 % 2 = t1 at *
  generalize x2 % 2 = t2 at *
  generalize x3 % 2 = t3 at *
  simp only [val]
  omega

theorem mont_round6 {m h0 h1 h2 h3 h4 h5 l1 l2 l3 l4 l5 z0 z1 z2 z3 z4 z5 q0 q1 q2 q3 q4 q5 : Int} (p0 : 18446744073709551616 * h0 = m * q0 + z0) (p1 : l1 + 18446744073709551616 * h1 = m * q1 + z1 + h0) (p2 : l2 + 18446744073709551616 * h2 = m * q2 + z2 + h1) (p3 : l3 + 18446744073709551616 * h3 = m * q3 + z3 + h2) (p4 : l4 + 18446744073709551616 * h4 = m * q4 + z4 + h3) (p5 : l5 + 18446744073709551616 * h5 = m * q5 + z5 + h4) :
    18446744073709551616 * val [l1, l2, l3, l4, l5, h5] = val [z0, z1, z2, z3, z4, z5] + m * val [q0, q1, q2, q3, q4, q5] := by
  simp only [val, Int.mul_add, Int.mul_zero, Int.mul_left_comm m 18446744073709551616]
  generalize m * q0 = t0 at *
  generalize m * q1 = t1 at *
  generalize m * q2 = t2 at *
  generalize m * q3 = t3 at *
  generalize m * q4 = t4 at *
  generalize m * q5 = t5 at *
  omega

theorem mont_all6 {q m0 m1 m2 m3 m4 m5 v0 v1 v2 v3 v4 v5 v6 : Int} (e0 : 18446744073709551616 * v1 = v0 + m0 * q) (e1 : 18446744073709551616 * v2 = v1 + m1 * q) (e2 : 18446744073709551616 * v3 = v2 + m2 * q) (e3 : 18446744073709551616 * v4 = v3 + m3 * q) (e4 : 18446744073709551616 * v5 = v4 + m4 * q) (e5 : 18446744073709551616 * v6 = v5 + m5 * q) : v6 * big 6 = v0 + val [m0, m1, m2, m3, m4, m5] * q := by
  simp only [val, big, Int.add_mul, Int.mul_assoc, Int.zero_mul, Int.mul_zero, Int.add_zero]
  generalize m0 * q = t0 at *
  generalize m1 * q = t1 at *
  generalize m2 * q = t2 at *
  generalize m3 * q = t3 at *
  generalize m4 * q = t4 at *
  generalize m5 * q = t5 at *
  omega

theorem sub_chain6 {s0 s1 s2 s3 s4 s5 d0 d1 d2 d3 d4 d5 b0 b1 b2 b3 b4 b5 q0 q1 q2 q3 q4 q5 : Int} (r0 : d0 - 18446744073709551616 * b0 = s0 - q0 - 0) (r1 : d1 - 18446744073709551616 * b1 = s1 - q1 - b0) (r2 : d2 - 18446744073709551616 * b2 = s2 - q2 - b1) (r3 : d3 - 18446744073709551616 * b3 = s3 - q3 - b2) (r4 : d4 - 18446744073709551616 * b4 = s4 - q4 - b3) (r5 : d5 - 18446744073709551616 * b5 = s5 - q5 - b4) : val [d0, d1, d2, d3, d4, d5] - b5 * big 6 = val [s0, s1, s2, s3, s4, s5] - val [q0, q1, q2, q3, q4, q5] := by
  simp only [val, big]
  omega

theorem half_chain6 {x0 x1 x2 x3 x4 x5 o0 o1 o2 o3 o4 o5 : Int} (p0 : 2 * o0 = x0 - x0 % 2 + 18446744073709551616 * (x1 % 2)) (p1 : 2 * o1 = x1 - x1 % 2 + 18446744073709551616 * (x2 % 2)) (p2 : 2 * o2 = x2 - x2 % 2 + 18446744073709551616 * (x3 % 2)) (p3 : 2 * o3 = x3 - x3 % 2 + 18446744073709551616 * (x4 % 2)) (p4 : 2 * o4 = x4 - x4 % 2 + 18446744073709551616 * (x5 % 2)) (p5 : 2 * o5 = x5 - x5 % 2) : 2 * val [o0, o1, o2, o3, o4, o5] = val [x0, x1, x2, x3, x4, x5] - x0 % 2 := by
  generalize x0 % 2 = t0 at *
  generalize x1 % 2 = t1 at *
  generalize x2 % 2 = t2 at *
  generalize x3 % 2 = t3 at *
  generalize x4 % 2 = t4 at *
  generalize x5 % 2 = t5 at *
  simp only [val]
  omega

theorem val_append : ∀ (xs ys : List Int), val (xs ++ ys) = val xs + big xs.length * val ys
  | [], ys => by simp [val, big]
  | x :: xs, ys => by
    rw [List.cons_append, val, val, val_append xs ys, List.length_cons, big, Int.mul_add, Int.mul_assoc]
    omega

/-- Half of an odd number and the prime, the last bit carried over. -/
theorem regI_odd {n : Nat} {a m s hh : List Int} {v c t o : Int} (ua : u64s a) (la : a.length = n) (um : u64s m) (lm : m.length = n) (hn : 0 < n) (gs : s = wds n (val a + val m))
    (ec : (big n ≤ val a + val m ∧ c = 1) ∨ (¬ big n ≤ val a + val m ∧ c = 0)) (gh : hh ++ [v] = wds n (val s / 2)) (ht : t = (v + 9223372036854775808) % 18446744073709551616) (ho : (c = 0 ∧ o = v) ∨ (c ≠ 0 ∧ o = t)) :
    wds n ((val a + val m) / 2) = hh ++ [o] := by
  have ⟨a0, a1⟩ := val_lt ua la
  have ⟨m0, m1⟩ := val_lt um lm
  obtain ⟨k, rfl⟩ : ∃ k, n = k + 1 := ⟨n - 1, by omega⟩
  have hb := big_pos k
  have hB : big (k + 1) = 18446744073709551616 * big k := rfl
  have us : u64s s := by rw [gs]; exact wds_u64s _ _
  have ls : s.length = k + 1 := by rw [gs]; exact wds_length _ _
  have ⟨s0, s1⟩ := val_lt us ls
  have hS : val s = val a + val m - c * big (k + 1) := by
    rcases ec with ⟨e1, rfl⟩ | ⟨e1, rfl⟩
    · have : wds (k + 1) (val a + val m) = wds (k + 1) (val a + val m - big (k + 1)) := by
        have := wds_turn (k + 1) (val a + val m - big (k + 1)) 1
        rw [← this]
        congr 1
        omega
      rw [gs, this, val_wds_of (by omega) (by omega)]
      omega
    · rw [gs, val_wds_of (by omega) (by omega)]
      omega
  have hl : hh.length = k := by
    have := congrArg List.length gh
    rw [wds_length] at this
    simpa using this
  have uh : u64s (hh ++ [v]) := by rw [gh]; exact wds_u64s _ _
  have hH : val hh + big k * v = val s / 2 := by
    have e1 := val_append hh [v]
    rw [gh, val_wds_of (by omega) (by omega), hl] at e1
    simp only [val, Int.mul_zero, Int.add_zero] at e1
    omega
  have uhh : u64s hh := fun x hx => uh x (by simp [hx])
  have ⟨h0, h1⟩ := val_lt uhh hl
  have kv := uh v (by simp)
  simp only [K.holds] at kv
  have hv : v < 9223372036854775808 := by
    rcases Int.lt_or_le v 9223372036854775808 with h | h
    · exact h
    · exfalso
      have : big k * 9223372036854775808 ≤ big k * v := Int.mul_le_mul_of_nonneg_left h (by omega)
      omega
  have hc : c = 0 ∨ c = 1 := by omega
  have ho' : o = v + c * 9223372036854775808 := by omega
  have uo : u64s (hh ++ [o]) := by
    intro x hx
    rcases List.mem_append.mp hx with hx | hx
    · exact uhh x hx
    · simp only [List.mem_singleton] at hx
      subst hx
      simp only [K.holds]
      omega
  refine wds_eq uo (by simp [hl]) 0 ?_
  rw [val_append, hl, ho']
  simp only [val, Int.mul_zero, Int.add_zero, Int.mul_add]
  rcases hc with rfl | rfl <;> omega

theorem regI_length (n : Nat) (m a : List Int) : (regI n m a).length = n := by
  unfold regI
  split <;> exact wds_length _ _

theorem regF_length (n : Nat) (ins : List Int) (h : ins.length = 2 * n) : (regF n ins).length = n := by
  have lr : ∀ (d : Nat) (a : List Int), a.length = n → (rep (regI n (ins.drop n)) d a).length = n := by
    intro d
    induction d with
    | zero => intro a h; exact h
    | succ d ih => intro a h; exact ih _ (regI_length _ _ _)
  exact lr _ _ (by simp; omega)

def rgStep (n : Nat) (vs : List Int) : List Int :=
  if vs.getD (2 * n) 0 < 64 * n then regI n ((vs.drop n).take n) (vs.take n) ++ (vs.drop n).take n ++ [vs.getD (2 * n) 0 + 1, 1] else vs ++ [0]

def rgPre (n : Nat) (ins : List Int) : List Int := regI n (ins.drop n) (ins.take n) ++ ins.drop n ++ [1]

theorem reg_iter {n : Nat} (m : List Int) (lm : m.length = n) : ∀ (d j : Nat) (a : List Int), a.length = n → j + d = 64 * n →
    iterL (rgStep n) (2 * n + 1) (d + 1) (a ++ m ++ [(j : Int)]) = some (rep (regI n m) d a ++ m ++ [((64 * n : Nat) : Int)]) := by
  have parts : ∀ (a : List Int) (x : Int), a.length = n → (a ++ m ++ [x]).getD (2 * n) 0 = x ∧ ((a ++ m ++ [x]).drop n).take n = m ∧ (a ++ m ++ [x]).take n = a := fun a x la => by
    refine ⟨?_, ?_, ?_⟩
    · have : (a ++ m).length = 2 * n := by simp; omega
      rw [List.getD_eq_getElem?_getD, List.getElem?_append_right (by omega)]
      simp [this]
    · rw [List.append_assoc, List.drop_append_of_le_length (by omega), List.drop_of_length_le (by omega), List.nil_append, List.take_append_of_le_length (by omega), List.take_of_length_le (by omega)]
    · rw [List.append_assoc, List.take_append_of_le_length (by omega), List.take_of_length_le (by omega)]
  intro d
  induction d with
  | zero =>
    intro j a la hj
    obtain ⟨p1, p2, p3⟩ := parts a j la
    have hlen : (a ++ m ++ [(j : Int)]).length = 2 * n + 1 := by simp; omega
    have hst : rgStep n (a ++ m ++ [(j : Int)]) = a ++ m ++ [(j : Int)] ++ [0] := by
      rw [rgStep, p1, if_neg (by omega)]
    simp only [iterL, hst]
    have hg : (a ++ m ++ [(j : Int)] ++ [0]).getD (2 * n + 1) 0 = (0 : Int) := by
      rw [List.getD_eq_getElem?_getD, List.getElem?_append_right (by omega), hlen, Nat.sub_self]
      rfl
    rw [hg, if_pos rfl, List.take_append_of_le_length (by omega), List.take_of_length_le (by omega)]
    have : j = 64 * n := by omega
    subst this
    rfl
  | succ d ih =>
    intro j a la hj
    obtain ⟨p1, p2, p3⟩ := parts a j la
    have hst : rgStep n (a ++ m ++ [(j : Int)]) = regI n m a ++ m ++ [(((j + 1 : Nat)) : Int)] ++ [1] := by
      rw [rgStep, p1, if_pos (by omega), p2, p3]
      simp
    have ls : (regI n m a).length = n := regI_length _ _ _
    have hlen : (regI n m a ++ m ++ [(((j + 1 : Nat)) : Int)]).length = 2 * n + 1 := by simp; omega
    rw [iterL, hst]
    have hg : (regI n m a ++ m ++ [(((j + 1 : Nat)) : Int)] ++ [1]).getD (2 * n + 1) 0 = (1 : Int) := by
      rw [List.getD_eq_getElem?_getD, List.getElem?_append_right (by omega), hlen, Nat.sub_self]
      rfl
    rw [hg, if_neg (by decide), List.take_append_of_le_length (by omega), List.take_of_length_le (by omega)]
    exact ih (j + 1) (regI n m a) ls (by omega)

theorem reg_loop {n : Nat} (hn : 0 < n) (ins : List Int) (hl : ins.length = 2 * n) :
    ∃ N vf, iterL (rgStep n) (2 * n + 1) N (rgPre n ins) = some vf ∧ regF n ins = vf.take n := by
  have lm : (ins.drop n).length = n := by simp; omega
  have ls : (regI n (ins.drop n) (ins.take n)).length = n := regI_length _ _ _
  refine ⟨_, _, reg_iter (ins.drop n) lm (64 * n - 1) 1 _ ls (by omega), ?_⟩
  have e : 64 * n = (64 * n - 1) + 1 := by omega
  have lr : ∀ (d : Nat) (a : List Int), a.length = n → (rep (regI n (ins.drop n)) d a).length = n := by
    intro d
    induction d with
    | zero => intro a h; exact h
    | succ d ih => intro a h; exact ih _ (regI_length _ _ _)
  rw [List.append_assoc, List.take_append_of_le_length (by rw [lr _ _ ls]; omega), List.take_of_length_le (by rw [lr _ _ ls]; omega)]
  rw [regF]
  conv => lhs; rw [e]
  rfl

end Go.Sym
