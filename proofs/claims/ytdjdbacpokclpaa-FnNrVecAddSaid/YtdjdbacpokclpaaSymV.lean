/- A function's summary by one check that the kernel reckons, and one plain law; numbers as rows of wds. -/
import Derived.Test.YtdjdbacpokclpaaSymX
namespace Go.Sym

def checkFn (P : Program) (tbl : List (Nat × Summ)) (s : Summ) (fuel : Nat) (fn : Func) (T : Option Nat → CT) : Bool :=
  (fn.name != "runtime.NumGoroutine") && fn.body.isSome && P.follows .mixedOrders && initB s fn.ntmps && decide (fn.results.toList.length ≤ 2) &&
    (alsOf s).all fun al => decide (treeOf (leafRun P tbl s al fuel (fn.body.getD .skip) fn.ntmps fn.results.toList) 24 [] = some (T al)) && cover tbl s.inKinds (T al) [] []

def row (ρ : Nat → Int) (n : Nat) : List Int := (List.range n).map ρ

def AsrOK (ρ : Nat → Int) (asr : List (E × Bool)) : Prop := ∀ e b, (e, b) ∈ asr → (!(e.den ρ == 0)) = b

theorem satTr_nil {Φ : Nat → List Int → List Int} {ρ : Nat → Int} : SatTr Φ ρ [] ↔ True := by simp [SatTr]

theorem satTr_cons {Φ : Nat → List Int → List Int} {ρ : Nat → Int} {x : Nat} {k : K} {i : I} {tr : List (Nat × K × I)} : SatTr Φ ρ ((x, k, i) :: tr) ↔ (ρ x = i.val Φ ρ ∧ k.holds (ρ x)) ∧ SatTr Φ ρ tr := by
  constructor
  · intro h
    exact ⟨h x k i (by simp), fun y k' i' hy => h y k' i' (by simp [hy])⟩
  · rintro ⟨h1, h2⟩ y k' i' hy
    rcases List.mem_cons.mp hy with hy | hy
    · cases hy; exact h1
    · exact h2 y k' i' hy

theorem asrOK_nil {ρ : Nat → Int} : AsrOK ρ [] ↔ True := by simp [AsrOK]
theorem asrOK_cons {ρ : Nat → Int} {e : E} {b : Bool} {l : List (E × Bool)} : AsrOK ρ ((e, b) :: l) ↔ (if b then e.den ρ ≠ 0 else e.den ρ = 0) ∧ AsrOK ρ l := by
  constructor
  · intro h
    refine ⟨?_, fun e' b' hx => h e' b' (by simp [hx])⟩
    have := h e b (by simp)
    cases b <;> simp at this ⊢ <;> exact this
  · rintro ⟨h1, h2⟩ e' b' hx
    rcases List.mem_cons.mp hx with hx | hx
    · cases hx
      cases b <;> simp at h1 ⊢ <;> exact h1
    · exact h2 e' b' hx

theorem holdsAll_len : ∀ {ks : List K} {xs : List Int}, holdsAll ks xs → xs.length = ks.length := holdsAll_length

theorem summ_fn {P : Program} {Φ : Nat → List Int → List Int} {tbl : List (Nat × Summ)} {s : Summ} {f : Nat} {fn : Func} {F : List Int → List Int} (fuel : Nat) (T : Option Nat → CT) (hf : P.funcs[f]? = some fn)
    (htbl : ∀ f s, findS tbl f = some s → SummOK P f s (Φ f)) (hchk : checkFn P tbl s fuel fn T = true)
    (hmath : ∀ al ∈ alsOf s, ∀ l ∈ (T al).leaves, ∀ ρ : Nat → Int, holdsAll s.inKinds (row ρ s.inKinds.length) → SatTr Φ ρ l.tr → AsrOK ρ l.asr → F (row ρ s.inKinds.length) = l.outs.map (E.den ρ)) : SummOK P f s F := by
  simp only [checkFn, Bool.and_eq_true, decide_eq_true_eq, List.all_eq_true] at hchk
  obtain ⟨⟨⟨⟨⟨h1, h2⟩, h3⟩, h4⟩, h5⟩, h6⟩ := hchk
  have hb : fn.body = some (fn.body.getD .skip) := by
    cases hh : fn.body with
    | none => rw [hh] at h2; cases h2
    | some c => rfl
  refine summ_ok (fuel := fuel) hf (by simpa using h1) hb h3 htbl h4 fn.results.toList (by simp) h5 T (fun al hal => (h6 al hal).2) (fun al hal l hl => treeOf_run (h6 al hal).1 l hl) ?_
  intro al hal l hl ρ ins hins hρ hsat hasr
  have e : ins = row ρ s.inKinds.length := by
    apply List.ext_getElem
    · simp [row, holdsAll_len hins]
    · intro i g1 g2
      have := hρ i (by rw [← holdsAll_len hins]; exact g1)
      simp [row, this, g1]
  rw [e] at hins ⊢
  exact hmath al hal l hl ρ hins hsat hasr

theorem tbl_nil {P : Program} {Φ : Nat → List Int → List Int} : ∀ f s, findS [] f = some s → SummOK P f s (Φ f) := by intro f s h; simp [findS] at h

theorem tbl_cons {P : Program} {Φ : Nat → List Int → List Int} {g : Nat} {s : Summ} {tbl : List (Nat × Summ)} (h : SummOK P g s (Φ g)) (t : ∀ f s, findS tbl f = some s → SummOK P f s (Φ f)) :
    ∀ f s', findS ((g, s) :: tbl) f = some s' → SummOK P f s' (Φ f) := by
  intro f s' hf
  simp only [findS] at hf
  split at hf
  · rename_i hg
    cases hf
    have : g = f := by simpa using hg
    subst this
    exact h
  · exact t f s' hf

/-! ### numbers as words, the least first -/
def val : List Int → Int
  | [] => 0
  | x :: xs => x + 18446744073709551616 * val xs

def wds (n : Nat) (X : Int) : List Int :=
  match n with
  | 0 => []
  | n + 1 => X % 18446744073709551616 :: wds n (X / 18446744073709551616)

def big (n : Nat) : Int :=
  match n with
  | 0 => 1
  | n + 1 => 18446744073709551616 * big n

theorem big_pos : ∀ n, 0 < big n
  | 0 => by decide
  | n + 1 => by have := big_pos n; simp only [big]; omega

theorem wds_length : ∀ (n : Nat) (X : Int), (wds n X).length = n
  | 0, _ => rfl
  | n + 1, X => by simp [wds, wds_length n]

theorem wds_u64s : ∀ (n : Nat) (X : Int), u64s (wds n X)
  | 0, _ => by intro x hx; simp [wds] at hx
  | n + 1, X => by
    intro x hx
    simp only [wds, List.mem_cons] at hx
    rcases hx with rfl | hx
    · simp only [K.holds]; omega
    · exact wds_u64s n _ x hx

theorem val_nonneg : ∀ {ws : List Int}, u64s ws → 0 ≤ val ws ∧ val ws < big ws.length
  | [], _ => by simp [val, big]
  | x :: ws, h => by
    have h1 := h x (by simp)
    have ⟨h2, h3⟩ := val_nonneg (ws := ws) fun y hy => h y (by simp [hy])
    simp only [K.holds] at h1
    simp only [val, List.length_cons, big]
    omega

/-- Words are told by their number. -/
theorem val_inj : ∀ {xs ys : List Int}, u64s xs → u64s ys → xs.length = ys.length → val xs = val ys → xs = ys
  | [], [], _, _, _, _ => rfl
  | x :: xs, y :: ys, hx, hy, hl, hv => by
    have h1 := hx x (by simp)
    have h2 := hy y (by simp)
    simp only [K.holds] at h1 h2
    simp only [val] at hv
    have e1 : x = y := by omega
    subst e1
    have e2 : xs = ys := val_inj (fun z hz => hx z (by simp [hz])) (fun z hz => hy z (by simp [hz])) (by simpa using hl) (by omega)
    rw [e2]
  | [], _ :: _, _, _, hl, _ => by simp at hl
  | _ :: _, [], _, _, hl, _ => by simp at hl

theorem val_wds : ∀ (n : Nat) (X : Int), ∃ k, val (wds n X) = X + k * big n
  | 0, X => ⟨-X, by simp only [val, wds, big]; omega⟩
  | n + 1, X => by
    obtain ⟨k, hk⟩ := val_wds n (X / 18446744073709551616)
    refine ⟨k, ?_⟩
    simp only [val, wds, big, hk]
    have e1 : 18446744073709551616 * (X / 18446744073709551616 + k * big n) = 18446744073709551616 * (X / 18446744073709551616) + k * (18446744073709551616 * big n) := by
      rw [Int.mul_add, ← Int.mul_assoc, ← Int.mul_assoc, Int.mul_comm 18446744073709551616 k]
    rw [e1]
    omega

theorem val_wds_of {n : Nat} {X : Int} (h0 : 0 ≤ X) (h1 : X < big n) : val (wds n X) = X := by
  obtain ⟨k, hk⟩ := val_wds n X
  have ⟨g0, g1⟩ := val_nonneg (wds_u64s n X)
  rw [wds_length] at g1
  have hb := big_pos n
  have : k = 0 := by
    rcases Int.lt_trichotomy k 0 with h | h | h
    · have : k * big n ≤ -1 * big n := Int.mul_le_mul_of_nonneg_right (by omega) (by omega)
      omega
    · exact h
    · have : 1 * big n ≤ k * big n := Int.mul_le_mul_of_nonneg_right (by omega) (by omega)
      omega
  rw [hk, this]
  omega

/-- Words whose number is X, but for whole turns. -/
theorem wds_eq {n : Nat} {X : Int} {ws : List Int} (hu : u64s ws) (hl : ws.length = n) (k : Int) (hv : val ws = X + k * big n) : wds n X = ws := by
  subst hl
  refine val_inj (wds_u64s _ _) hu (wds_length _ _) ?_
  obtain ⟨k', hk'⟩ := val_wds ws.length X
  have ⟨g0, g1⟩ := val_nonneg (wds_u64s ws.length X)
  have ⟨g2, g3⟩ := val_nonneg hu
  rw [wds_length] at g1
  have hb := big_pos ws.length
  have e : val (wds ws.length X) = val ws + (k' - k) * big ws.length := by rw [hk', hv, Int.sub_mul]; omega
  have : k' - k = 0 := by
    rcases Int.lt_trichotomy (k' - k) 0 with h | h | h
    · have : (k' - k) * big ws.length ≤ -1 * big ws.length := Int.mul_le_mul_of_nonneg_right (by omega) (by omega)
      omega
    · exact h
    · have : 1 * big ws.length ≤ (k' - k) * big ws.length := Int.mul_le_mul_of_nonneg_right (by omega) (by omega)
      omega
  rw [e, this]
  omega

theorem wds_val {ws : List Int} (hu : u64s ws) : wds ws.length (val ws) = ws := wds_eq hu rfl 0 (by omega)

theorem wds_turn (n : Nat) (X k : Int) : wds n (X + k * big n) = wds n X := by
  obtain ⟨k', hk'⟩ := val_wds n X
  exact wds_eq (wds_u64s n X) (wds_length n X) (k' - k) (by rw [hk', Int.sub_mul]; omega)

end Go.Sym
