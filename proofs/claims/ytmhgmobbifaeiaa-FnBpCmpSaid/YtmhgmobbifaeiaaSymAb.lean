/- How many bits a number of words has: the loop over the places, the highest first. -/
import Derived.Test.YtmhgmobbifaeiaaSymP
import Derived.Test.YtmhgmobbifaeiaaSymAa
namespace Go.Sym

theorem rem2 {x z : Int} (hx : 0 ≤ x ∧ x < 18446744073709551616) (h : z = binV .rem .u64 x 2) : z = x % 2 := by
  have e0 : x.tmod 2 = x % 2 := Int.tmod_eq_emod_of_nonneg hx.1
  rw [h]
  simp only [binV, e0, IntKind.wrap, IntKind.bits, IntKind.signed]
  simp
  omega

theorem bit_word : ∀ {ws : List Int}, u64s ws → ∀ (d : Nat), d < 64 * ws.length → ws.getD (d / 64) 0 / 2 ^ (d % 64) % 2 = val ws / 2 ^ d % 2
  | [], _, d, hd => by simp at hd
  | x :: xs, hu, d, hd => by
    have h1 := hu x (by simp)
    simp only [K.holds] at h1
    rcases Nat.lt_or_ge d 64 with hlt | hge
    · have e1 : d / 64 = 0 := by omega
      have e2 : d % 64 = d := by omega
      rw [e1, e2, List.getD_cons_zero, val]
      obtain ⟨c, hc⟩ := Nat.exists_eq_add_of_le (show d + 1 ≤ 64 by omega)
      have hp : (0 : Int) < 2 ^ d := Int.pow_pos (by decide)
      have e3 : (18446744073709551616 : Int) = 2 ^ d * (2 * 2 ^ c) := by
        have : (18446744073709551616 : Int) = 2 ^ 64 := by decide
        rw [this, hc, Int.pow_add, Int.pow_succ, Int.mul_assoc]
      have e4 : x + 18446744073709551616 * val xs = x + (2 * (2 ^ c * val xs)) * 2 ^ d := by
        rw [e3, Int.mul_assoc, Int.mul_assoc 2, Int.mul_comm (2 ^ d)]
      rw [e4, Int.add_mul_ediv_right _ _ (by omega)]
      omega
    · obtain ⟨d', rfl⟩ := Nat.exists_eq_add_of_le hge
      have ih := bit_word (ws := xs) (fun y hy => hu y (by simp [hy])) d' (by simp at hd; omega)
      have e1 : (64 + d') / 64 = d' / 64 + 1 := by omega
      have e2 : (64 + d') % 64 = d' % 64 := by omega
      rw [e1, e2, List.getD_cons_succ, ih, Int.pow_add]
      have e3 : (2 : Int) ^ 64 = 18446744073709551616 := by decide
      rw [e3, ← Int.ediv_ediv_of_nonneg (by decide), val]
      have e4 : (x + 18446744073709551616 * val xs) / 18446744073709551616 = val xs := by omega
      rw [e4]

def wordsS (o n : Nat) : List S := (List.range n).map fun i => .int .u64 (.v (o + i))
def wordsE (n : Nat) : List E := (List.range n).map fun i => .v i

def bitForm (n k : Nat) : Tmpl :=
  { kin := List.replicate n (.i .u64), slots := [(0, .s (.slc 0 0 n n)), (3, .s (.int .i64 (.c ((64 * n : Nat) - 1 - (k : Int)))))], mem := [(0, wordsS 0 n)], nr := 1 }

def bitTr (n k : Nat) : List (Nat × K × I) :=
  [(n + 2, .bool, .cmp .eql (.v (n + 1)) (.c 1)), (n + 1, .i .u64, .bin .rem .u64 (.v n) (.c 2)), (n, .i .u64, .shr .u64 (.v ((64 * n - 1 - k) / 64)) (.c (((64 * n - 1 - k) % 64 : Nat) : Int)))]

def bitT2 (n k : Nat) : CT :=
  if k < 64 * n then .node (.v (n + 2)) (.leaf ⟨bitTr n k, [(.v (n + 2), true)], [.c ((64 * n - k : Nat) : Int), .c 2]⟩) (.leaf ⟨bitTr n k, [(.v (n + 2), false)], wordsE n ++ [.c 1]⟩)
  else .leaf ⟨[], [], wordsE n ++ [.c 0]⟩

def bitStep (n k : Nat) (vs : List Int) : List Int ⊕ List Int := if val vs / 2 ^ (64 * n - 1 - k) % 2 = 1 then .inl [((64 * n - k : Nat) : Int)] else .inr vs

theorem bit_fin {n : Nat} (vs : List Int) : ∀ (r k : Nat), k + r = 64 * n → finF (bitStep n) (fun _ => [0]) r k vs = [blen r (val vs)]
  | 0, k, _ => rfl
  | r + 1, k, h => by
    have e : 64 * n - 1 - k = r := by omega
    have e2 : 64 * n - k = r + 1 := by omega
    simp only [finF, bitStep, e, e2, blen]
    by_cases hb : val vs / 2 ^ r % 2 = 1
    · simp only [hb, if_true]
      simp
    · simp only [hb, if_false]
      exact bit_fin vs r (k + 1) (by omega)

def bitSu (n : Nat) : Summ := ⟨[.slc n], none, [.sc (.i .i64)]⟩

theorem wordsE_den {ρ : Nat → Int} {n : Nat} : (wordsE n).map (E.den ρ) = row ρ n := by
  simp [wordsE, row, Function.comp_def, E.den]

theorem summ_bits {P : Program} {Φ : Nat → List Int → List Int} {f fuel : Nat} {fn : Func} (n : Nat) (hf : P.funcs[f]? = some fn)
    (hchk : countChk P [] (bitSu n) fuel fn (bitForm n) (64 * n) (List.replicate n (.i .u64)) (.leaf ⟨[], [], wordsE n ++ [.c 1]⟩) (bitT2 n) (.leaf ⟨[], [], [.c 0]⟩) = true) : SummOK P f (bitSu n) (bitsWF n) := by
  have hin : (bitSu n).inKinds = List.replicate n (.i .u64) := by simp [bitSu, Summ.inKinds]
  have hlen : (List.replicate n (K.i .u64)).length = n := List.length_replicate
  have hu : ∀ {vs : List Int}, holdsAll (List.replicate n (.i .u64)) vs → u64s vs ∧ vs.length = n := fun {vs} h => by
    have hl := holdsAll_length h
    rw [hlen] at hl
    refine ⟨fun x hx => ?_, hl⟩
    obtain ⟨i, hi, rfl⟩ := List.getElem_of_mem hx
    have := holdsAll_get h i (.i .u64) (by rw [List.getElem?_replicate, if_pos (by omega)])
    simpa [hi] using this
  refine summ_count (Φ := Φ) (N := 64 * n) (τ := bitForm n) (kin := List.replicate n (.i .u64)) (preF := fun ins => ins) (postF := fun _ => [0]) (step := bitStep n) _ (bitT2 n) _ hf tbl_nil (fun _ => rfl) hchk ?_ ?_ ?_ ?_ ?_
  · intro l hl ρ hk hs ha
    simp only [CT.leaves, List.mem_singleton] at hl
    subst hl
    simp only [List.map_append, wordsE_den, hin, hlen]
    rfl
  · intro k hk l hl ρ hh hs ha
    rw [hlen] at hh ⊢
    obtain ⟨u1, u2⟩ := hu hh
    have hb := bit_word u1 (64 * n - 1 - k) (by rw [u2]; omega)
    have facts : ∀ l : Leaf, l.tr = bitTr n k → SatTr Φ ρ l.tr → (val (row ρ n) / 2 ^ (64 * n - 1 - k) % 2 = 1 ↔ ρ (n + 2) = 1) ∧ (ρ (n + 2) = 1 ∨ ρ (n + 2) = 0) := by
      intro l hl hs
      rw [hl] at hs
      simp only [bitTr, satTr_cons, satTr_nil, sv_eql, E.den] at hs
      obtain ⟨⟨h1, _⟩, ⟨h2, k2⟩, ⟨h3, k3⟩, _⟩ := hs
      simp only [K.holds] at k2 k3
      have h4 : ρ (n + 1) = ρ n % 2 := rem2 k3 h2
      have hw : (64 * n - 1 - k) / 64 < n := by omega
      have h5 : ρ n = (row ρ n).getD ((64 * n - 1 - k) / 64) 0 / 2 ^ ((64 * n - 1 - k) % 64) := by
        rw [h3]
        have e1 : Nat.min (((64 * n - 1 - k) % 64 : Nat) : Int).toNat (IntKind.bits .u64) = (64 * n - 1 - k) % 64 := by
          have : (64 * n - 1 - k) % 64 < 64 := Nat.mod_lt _ (by decide)
          simp only [Int.toNat_natCast, IntKind.bits]
          exact Nat.min_eq_left (by omega)
        show (ρ ((64 * n - 1 - k) / 64)).fdiv (2 ^ (Nat.min (((64 * n - 1 - k) % 64 : Nat) : Int).toNat (IntKind.bits .u64))) = _
        rw [e1, Int.fdiv_eq_ediv_of_nonneg _ (Int.le_of_lt (Int.pow_pos (by decide)))]
        congr 1
        simp [row, hw]
      rw [← hb, ← h5, ← h4]
      constructor
      · constructor
        · intro h; omega
        · intro h; omega
      · omega
    simp only [bitT2, if_pos hk, CT.leaves, List.cons_append, List.nil_append, List.mem_cons, List.not_mem_nil, or_false] at hl
    rcases hl with rfl | rfl
    · obtain ⟨i1, i2⟩ := facts _ rfl hs
      simp only [asrOK_cons, asrOK_nil, if_true, E.den] at ha
      have : ρ (n + 2) = 1 := by omega
      simp only [bitStep, if_pos (i1.mpr this), stepL]
      rfl
    · obtain ⟨i1, i2⟩ := facts _ rfl hs
      simp only [asrOK_cons, asrOK_nil, if_false, Bool.false_eq_true, E.den] at ha
      have : ¬ ρ (n + 2) = 1 := by omega
      simp only [bitStep, if_neg (fun h => this (i1.mp h)), stepL, List.map_append, wordsE_den]
      rfl
  · intro l hl ρ hh hs ha
    rw [hlen]
    simp only [bitT2, Nat.lt_irrefl, if_false, CT.leaves, List.mem_singleton] at hl
    subst hl
    simp only [List.map_append, wordsE_den]
    rfl
  · intro l hl ρ hh hs ha
    simp only [CT.leaves, List.mem_singleton] at hl
    subst hl
    rfl
  · intro ins hins
    exact (bit_fin ins (64 * n) 0 (by omega)).symm

end Go.Sym
