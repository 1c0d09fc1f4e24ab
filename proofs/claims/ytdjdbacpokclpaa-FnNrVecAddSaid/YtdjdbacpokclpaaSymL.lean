/- Symbolic runs of straight Go code over the model: the numbers of a way exist; every input goes one of the ways. -/
import Derived.Test.YtdjdbacpokclpaaSymK
namespace Go.Sym

/-- A way's end: what was reckoned, what was decided, what comes out. -/
structure Leaf where
  tr : List (Nat × K × I)
  asr : List (E × Bool)
  outs : List E
  deriving DecidableEq

def E.below (n : Nat) : E → Bool
  | .v i => decide (i < n)
  | .c _ => true

def I.es : I → List E
  | .bin _ _ x y | .cmp _ x y | .shl _ x y | .shr _ x y | .beq x y | .max x y | .min x y => [x, y]
  | .neg _ x | .inv _ x | .cnv _ x | .not x => [x]
  | .eqs xs ys => xs ++ ys
  | .pick c x y => [c, x, y]
  | .fn _ xs _ => xs

def tkd (kin : List K) (tr : List (Nat × K × I)) (e : E) (k : K) : Bool :=
  match e with
  | .c n => k.okB n
  | .v i => match if i < kin.length then kin[i]? else tlook tr i with
    | some k' => k'.le k
    | none => false

def kindsMatch (kin : List K) (tr : List (Nat × K × I)) : List K → List E → Bool
  | [], [] => true
  | k :: ks, e :: es => tkd kin tr e k && kindsMatch kin tr ks es
  | _, _ => false

def insB (tbl : List (Nat × Summ)) (kin : List K) (tr : List (Nat × K × I)) (k : K) : I → Bool
  | .bin _ k' _ _ => k == .i k' && kindOK k'
  | .cmp .. | .beq .. | .eqs .. | .not .. => k == .bool
  | .shl k' _ _ | .neg k' _ | .inv k' _ | .cnv k' _ => k == .i k' && kindOK k'
  | .shr k' x _ => k' == .u64 && k == .i .u64 && tkd kin tr x (.i .u64)
  | .pick _ x y => tkd kin tr x k && tkd kin tr y k
  | .max x y | .min x y => tkd kin tr x k && tkd kin tr y k
  | .fn f es j => match findS tbl f with
    | some s => kindsMatch kin tr s.inKinds es && s.outKinds[j]? == some k
    | none => false

/-- Every number rests on earlier ones; n counts them. -/
def wellB (tbl : List (Nat × Summ)) (kin : List K) : Nat → List (Nat × K × I) → Bool
  | 0, [] => true
  | n + 1, (x, k, i) :: tr => x == kin.length + n && i.es.all (E.below x) && insB tbl kin tr k i && wellB tbl kin n tr
  | _, _ => false

def SatTr (Φ : Nat → List Int → List Int) (ρ : Nat → Int) (tr : List (Nat × K × I)) : Prop := ∀ x k i, (x, k, i) ∈ tr → ρ x = i.val Φ ρ ∧ k.holds (ρ x)

inductive CT where
  | leaf (l : Leaf)
  | node (e : E) (t f : CT)
  deriving DecidableEq

def CT.first : CT → List (Nat × K × I)
  | .leaf l => l.tr
  | .node _ t _ => t.first

def CT.leaves : CT → List Leaf
  | .leaf l => [l]
  | .node _ t f => t.leaves ++ f.leaves

def cut (n : Nat) (tr : List (Nat × K × I)) : List (Nat × K × I) := tr.drop (tr.length - n)

def preOf (kin : List K) (e : E) (n : Nat) (tr : List (Nat × K × I)) : List (Nat × K × I) :=
  cut (match e with | .v i => max n (i + 1 - kin.length) | .c _ => n) tr

def cover (tbl : List (Nat × Summ)) (kin : List K) : CT → List (Nat × K × I) → List (E × Bool) → Bool
  | .leaf l, pre, asr => decide (cut pre.length l.tr = pre) && wellB tbl kin l.tr.length l.tr && l.asr.all fun x => asr.contains x
  | .node e t f, pre, asr =>
    let pre' := preOf kin e pre.length t.first
    decide (cut pre.length pre' = pre) && wellB tbl kin pre'.length pre' && e.below (kin.length + pre'.length) && cover tbl kin t pre' ((e, true) :: asr) && cover tbl kin f pre' ((e, false) :: asr)

section
variable {P : Program} {Φ : Nat → List Int → List Int} {ρ : Nat → Int} {kin : List K} {tbl : List (Nat × Summ)}

theorem wrap_holds {k : IntKind} (h : kindOK k = true) (n : Int) : (K.i k).holds (k.wrap n) := by
  cases k <;> simp [kindOK] at h <;> simp only [K.holds, IntKind.wrap, IntKind.bits, IntKind.signed] <;> simp <;> omega

theorem tkd_holds {tr : List (Nat × K × I)} (hk : ∀ (i : Nat) k, kin[i]? = some k → k.holds (ρ i)) (hs : SatTr Φ ρ tr) {e : E} {k : K} (h : tkd kin tr e k = true) : k.holds (e.den ρ) := by
  cases e with
  | c n => exact K.holds_of_okB h
  | v i =>
    simp only [tkd] at h
    split at h
    · rename_i k' hk'
      split at hk'
      · exact K.holds_le h (hk i k' hk')
      · obtain ⟨ii, hi⟩ := tlook_mem hk'
        exact K.holds_le h (hs _ _ _ hi).2
    · cases h

theorem kindsMatch_holds {tr : List (Nat × K × I)} (hk : ∀ (i : Nat) k, kin[i]? = some k → k.holds (ρ i)) (hs : SatTr Φ ρ tr) : ∀ {ks : List K} {es : List E}, kindsMatch kin tr ks es = true → holdsAll ks (es.map (E.den ρ))
  | [], [], _ => trivial
  | k :: ks, e :: es, h => by
    simp only [kindsMatch, Bool.and_eq_true] at h
    exact ⟨tkd_holds hk hs h.1, kindsMatch_holds hk hs h.2⟩
  | [], _ :: _, h => by simp [kindsMatch] at h
  | _ :: _, [], h => by simp [kindsMatch] at h

theorem holdsAll_get : ∀ {ks : List K} {xs : List Int}, holdsAll ks xs → ∀ (j : Nat) k, ks[j]? = some k → k.holds (xs.getD j 0)
  | [], _, _, j, k, hj => by simp at hj
  | k0 :: ks, x :: xs, h, 0, k, hj => by simp at hj; subst hj; exact h.1
  | k0 :: ks, x :: xs, h, j + 1, k, hj => by simpa using holdsAll_get h.2 j k (by simpa using hj)
  | _ :: _, [], h, _, _, _ => by simp [holdsAll] at h

theorem b2i_holds (b : Bool) : K.bool.holds (b2i b) := by cases b <;> simp [K.holds, b2i]

theorem insB_holds (htbl : ∀ f s, findS tbl f = some s → SummOK P f s (Φ f)) {tr : List (Nat × K × I)} (hk : ∀ (i : Nat) k, kin[i]? = some k → k.holds (ρ i)) (hs : SatTr Φ ρ tr) {k : K} {i : I}
    (h : insB tbl kin tr k i = true) : k.holds (i.val Φ ρ) := by
  cases i with
  | bin op k' x y =>
    simp only [insB, Bool.and_eq_true, beq_iff_eq] at h
    obtain ⟨rfl, h⟩ := h
    cases op <;> exact wrap_holds h _
  | cmp op x y => simp only [insB, beq_iff_eq] at h; subst h; exact b2i_holds _
  | beq x y => simp only [insB, beq_iff_eq] at h; subst h; exact b2i_holds _
  | eqs x y => simp only [insB, beq_iff_eq] at h; subst h; exact b2i_holds _
  | not x => simp only [insB, beq_iff_eq] at h; subst h; exact b2i_holds _
  | shl k' x y => simp only [insB, Bool.and_eq_true, beq_iff_eq] at h; obtain ⟨rfl, h⟩ := h; exact wrap_holds h _
  | neg k' x => simp only [insB, Bool.and_eq_true, beq_iff_eq] at h; obtain ⟨rfl, h⟩ := h; exact wrap_holds h _
  | inv k' x => simp only [insB, Bool.and_eq_true, beq_iff_eq] at h; obtain ⟨rfl, h⟩ := h; exact wrap_holds h _
  | cnv k' x => simp only [insB, Bool.and_eq_true, beq_iff_eq] at h; obtain ⟨rfl, h⟩ := h; exact wrap_holds h _
  | shr k' x y =>
    simp only [insB, Bool.and_eq_true, beq_iff_eq] at h
    obtain ⟨⟨rfl, rfl⟩, h⟩ := h
    have hx := tkd_holds hk hs h
    simp only [K.holds, I.val] at hx ⊢
    have hp : (0 : Int) < 2 ^ (Nat.min (y.den ρ).toNat IntKind.u64.bits) := Int.pow_pos (by decide)
    rw [Int.fdiv_eq_ediv_of_nonneg _ (Int.le_of_lt hp)]
    exact ⟨Int.ediv_nonneg hx.1 (Int.le_of_lt hp), Int.lt_of_le_of_lt (Int.ediv_le_self _ hx.1) hx.2⟩
  | pick c x y =>
    simp only [insB, Bool.and_eq_true] at h
    simp only [I.val]
    split
    · exact tkd_holds hk hs h.2
    · exact tkd_holds hk hs h.1
  | max x y =>
    simp only [insB, Bool.and_eq_true] at h
    simp only [I.val]
    split
    · exact tkd_holds hk hs h.2
    · exact tkd_holds hk hs h.1
  | min x y =>
    simp only [insB, Bool.and_eq_true] at h
    simp only [I.val]
    split
    · exact tkd_holds hk hs h.2
    · exact tkd_holds hk hs h.1
  | fn f es j =>
    simp only [insB] at h
    split at h
    · rename_i s hf
      simp only [Bool.and_eq_true, beq_iff_eq] at h
      exact holdsAll_get ((htbl f s hf).kinds _ (kindsMatch_holds hk hs h.1)) j k h.2
    · cases h

theorem den_congr_below {ρ ρ' : Nat → Int} {n : Nat} (h : ∀ j, j < n → ρ' j = ρ j) {e : E} (he : e.below n = true) : e.den ρ' = e.den ρ := by
  cases e with
  | c n => rfl
  | v i => exact h i (by simpa [E.below] using he)

theorem eqsV_congr {ρ ρ' : Nat → Int} : ∀ {xs ys : List E}, (∀ e ∈ xs, e.den ρ' = e.den ρ) → (∀ e ∈ ys, e.den ρ' = e.den ρ) → eqsV ρ' xs ys = eqsV ρ xs ys
  | [], [], _, _ => rfl
  | x :: xs, y :: ys, hx, hy => by
    simp only [eqsV]
    rw [hx x (by simp), hy y (by simp), eqsV_congr (fun e he => hx e (by simp [he])) (fun e he => hy e (by simp [he]))]
  | [], _ :: _, _, _ => rfl
  | _ :: _, [], _, _ => rfl

theorem val_congr {ρ ρ' : Nat → Int} {i : I} (h : ∀ e ∈ i.es, e.den ρ' = e.den ρ) : i.val Φ ρ' = i.val Φ ρ := by
  cases i with
  | eqs xs ys =>
    simp only [I.val]
    rw [eqsV_congr (fun e he => h e (by simp [I.es, he])) (fun e he => h e (by simp [I.es, he]))]
  | fn f xs j =>
    simp only [I.val]
    rw [show xs.map (E.den ρ') = xs.map (E.den ρ) from List.map_congr_left h]
  | pick c x y =>
    simp only [I.val]
    rw [h c (by simp [I.es]), h x (by simp [I.es]), h y (by simp [I.es])]
  | bin op k x y => simp only [I.val]; rw [h x (by simp [I.es]), h y (by simp [I.es])]
  | cmp op x y => simp only [I.val]; rw [h x (by simp [I.es]), h y (by simp [I.es])]
  | shl k x y => simp only [I.val]; rw [h x (by simp [I.es]), h y (by simp [I.es])]
  | shr k x y => simp only [I.val]; rw [h x (by simp [I.es]), h y (by simp [I.es])]
  | beq x y => simp only [I.val]; rw [h x (by simp [I.es]), h y (by simp [I.es])]
  | max x y => simp only [I.val]; rw [h x (by simp [I.es]), h y (by simp [I.es])]
  | min x y => simp only [I.val]; rw [h x (by simp [I.es]), h y (by simp [I.es])]
  | neg k x => simp only [I.val]; rw [h x (by simp [I.es])]
  | inv k x => simp only [I.val]; rw [h x (by simp [I.es])]
  | cnv k x => simp only [I.val]; rw [h x (by simp [I.es])]
  | not x => simp only [I.val]; rw [h x (by simp [I.es])]

theorem wellB_cons {n : Nat} {x : Nat} {k : K} {i : I} {tr : List (Nat × K × I)} (h : wellB tbl kin n ((x, k, i) :: tr) = true) :
    ∃ m, n = m + 1 ∧ x = kin.length + m ∧ (∀ e ∈ i.es, e.below x = true) ∧ insB tbl kin tr k i = true ∧ wellB tbl kin m tr = true := by
  cases n with
  | zero => simp [wellB] at h
  | succ m =>
    simp only [wellB, Bool.and_eq_true, beq_iff_eq, List.all_eq_true] at h
    exact ⟨m, rfl, h.1.1.1, h.1.1.2, h.1.2, h.2⟩

theorem wellB_len {tr : List (Nat × K × I)} : ∀ {n : Nat}, wellB tbl kin n tr = true → n = tr.length := by
  induction tr with
  | nil => intro n h; cases n with
    | zero => rfl
    | succ n => simp [wellB] at h
  | cons y tr ih =>
    intro n h
    obtain ⟨x, k, i⟩ := y
    obtain ⟨m, rfl, _, _, _, h5⟩ := wellB_cons h
    rw [ih h5]
    rfl

theorem wellB_mem {tr : List (Nat × K × I)} : ∀ {n : Nat}, wellB tbl kin n tr = true → ∀ x k i, (x, k, i) ∈ tr → x < kin.length + n ∧ ∀ e ∈ i.es, e.below x = true := by
  induction tr with
  | nil => intro n h x k i hx; simp at hx
  | cons y tr ih =>
    intro n h x k i hx
    obtain ⟨x0, k0, i0⟩ := y
    obtain ⟨m, rfl, h2, h3, _, h5⟩ := wellB_cons h
    rcases List.mem_cons.mp hx with hx | hx
    · simp only [Prod.mk.injEq] at hx
      obtain ⟨rfl, rfl, rfl⟩ := hx
      exact ⟨by omega, h3⟩
    · obtain ⟨g1, g2⟩ := ih h5 x k i hx
      exact ⟨by omega, g2⟩

theorem below_mono {n m : Nat} (h : n ≤ m) {e : E} (he : e.below n = true) : e.below m = true := by
  cases e with
  | c n => rfl
  | v i => simp only [E.below, decide_eq_true_eq] at *; omega

theorem sat_congr {tr : List (Nat × K × I)} {n : Nat} (h : wellB tbl kin n tr = true) {ρ ρ' : Nat → Int} (hρ : ∀ j, j < kin.length + n → ρ' j = ρ j) (hs : SatTr Φ ρ tr) : SatTr Φ ρ' tr := by
  intro x k i hx
  obtain ⟨h1, h2⟩ := wellB_mem h x k i hx
  obtain ⟨h3, h4⟩ := hs x k i hx
  rw [hρ x h1, val_congr fun e he => den_congr_below hρ (below_mono (Nat.le_of_lt h1) (h2 e he))]
  exact ⟨h3, h4⟩

theorem ext_ok (htbl : ∀ f s, findS tbl f = some s → SummOK P f s (Φ f)) (new : List (Nat × K × I)) {pre : List (Nat × K × I)} {ρ0 : Nat → Int} (hk : ∀ (i : Nat) k, kin[i]? = some k → k.holds (ρ0 i)) (hs : SatTr Φ ρ0 pre) :
    ∀ {n : Nat}, wellB tbl kin n (new ++ pre) = true → ∃ ρ, (∀ j, j < kin.length + pre.length → ρ j = ρ0 j) ∧ SatTr Φ ρ (new ++ pre) := by
  induction new with
  | nil => intro n h; exact ⟨ρ0, fun _ _ => rfl, hs⟩
  | cons y new ih =>
    intro n h
    obtain ⟨x, k, i⟩ := y
    rw [List.cons_append] at h
    obtain ⟨m, rfl, h2, h3, h4, h5⟩ := wellB_cons h
    obtain ⟨ρ1, g1, g2⟩ := ih h5
    have hm := wellB_len h5
    rw [List.length_append] at hm
    have hk1 : ∀ (i : Nat) k, kin[i]? = some k → k.holds (ρ1 i) := fun i k hi => by
      have : i < kin.length := (List.getElem?_eq_some_iff.mp hi).1
      rw [g1 i (by omega)]
      exact hk i k hi
    have e2 : ∀ j, j < x → (fun j => if j = x then i.val Φ ρ1 else ρ1 j) j = ρ1 j := fun j hj => if_neg (by omega)
    have hval : i.val Φ (fun j => if j = x then i.val Φ ρ1 else ρ1 j) = i.val Φ ρ1 := val_congr fun e he => den_congr_below e2 (h3 e he)
    refine ⟨fun j => if j = x then i.val Φ ρ1 else ρ1 j, fun j hj => ?_, ?_⟩
    · rw [e2 j (by omega)]; exact g1 j hj
    · intro y k' i' hy
      rcases List.mem_cons.mp hy with hy | hy
      · simp only [Prod.mk.injEq] at hy
        obtain ⟨rfl, rfl, rfl⟩ := hy
        rw [hval]
        simp only [if_true]
        exact ⟨trivial, insB_holds htbl hk1 g2 h4⟩
      · exact sat_congr h5 (fun j hj => e2 j (by omega)) g2 y k' i' hy

theorem cut_app {n : Nat} {tr pre : List (Nat × K × I)} (h : cut n tr = pre) : ∃ new, tr = new ++ pre := ⟨tr.take (tr.length - n), by rw [← h, cut]; simp⟩

theorem cover_ok (htbl : ∀ f s, findS tbl f = some s → SummOK P f s (Φ f)) : ∀ (T : CT) (pre : List (Nat × K × I)) (asr : List (E × Bool)) (ρ0 : Nat → Int), cover tbl kin T pre asr = true →
    (∀ (i : Nat) k, kin[i]? = some k → k.holds (ρ0 i)) → SatTr Φ ρ0 pre → (∀ e b, (e, b) ∈ asr → e.below (kin.length + pre.length) = true ∧ (!(e.den ρ0 == 0)) = b) →
    ∃ l ∈ T.leaves, ∃ ρ, (∀ j, j < kin.length → ρ j = ρ0 j) ∧ SatTr Φ ρ l.tr ∧ ∀ e b, (e, b) ∈ l.asr → (!(e.den ρ == 0)) = b
  | .leaf l, pre, asr, ρ0, h, hk, hs, ha => by
    simp only [cover, Bool.and_eq_true, decide_eq_true_eq, List.all_eq_true] at h
    obtain ⟨⟨h1, h2⟩, h3⟩ := h
    obtain ⟨new, hnew⟩ := cut_app h1
    rw [hnew] at h2
    obtain ⟨ρ, g1, g2⟩ := ext_ok htbl new hk hs h2
    refine ⟨l, by simp [CT.leaves], ρ, fun j hj => g1 j (by omega), by rw [hnew]; exact g2, fun e b hb => ?_⟩
    obtain ⟨k1, k2⟩ := ha e b (by simpa using h3 _ hb)
    rw [den_congr_below g1 k1]
    exact k2
  | .node e t f, pre, asr, ρ0, h, hk, hs, ha => by
    simp only [cover, Bool.and_eq_true, decide_eq_true_eq] at h
    obtain ⟨⟨⟨⟨h1, h2⟩, h3⟩, h4⟩, h5⟩ := h
    obtain ⟨new, hnew⟩ := cut_app h1
    have h2' := h2
    rw [hnew] at h2'
    obtain ⟨ρ1, g1, g2⟩ := ext_ok htbl new hk hs h2'
    rw [← hnew] at g2
    have hlen : pre.length ≤ (preOf kin e pre.length t.first).length := by rw [hnew]; simp
    have hk1 : ∀ (i : Nat) k, kin[i]? = some k → k.holds (ρ1 i) := fun i k hi => by
      have : i < kin.length := (List.getElem?_eq_some_iff.mp hi).1
      rw [g1 i (by omega)]
      exact hk i k hi
    have hasr : ∀ e' b, (e', b) ∈ asr → e'.below (kin.length + (preOf kin e pre.length t.first).length) = true ∧ (!(e'.den ρ1 == 0)) = b := fun e' b hb => by
      obtain ⟨k1, k2⟩ := ha e' b hb
      exact ⟨below_mono (by omega) k1, by rw [den_congr_below g1 k1]; exact k2⟩
    have fin : ∀ {l : Leaf} {ρ : Nat → Int}, (∀ j, j < kin.length → ρ j = ρ1 j) → ∀ j, j < kin.length → ρ j = ρ0 j := fun hρ j hj => by
      rw [hρ j hj]; exact g1 j (by omega)
    cases hb : (!(e.den ρ1 == 0)) with
    | true =>
      obtain ⟨l, hl, ρ, q1, q2, q3⟩ := cover_ok htbl t _ ((e, true) :: asr) ρ1 h4 hk1 g2 (fun e' b hx => by
        rcases List.mem_cons.mp hx with hx | hx
        · cases hx; exact ⟨h3, hb⟩
        · exact hasr e' b hx)
      exact ⟨l, by simp [CT.leaves, hl], ρ, fin (l := l) q1, q2, q3⟩
    | false =>
      obtain ⟨l, hl, ρ, q1, q2, q3⟩ := cover_ok htbl f _ ((e, false) :: asr) ρ1 h5 hk1 g2 (fun e' b hx => by
        rcases List.mem_cons.mp hx with hx | hx
        · cases hx; exact ⟨h3, hb⟩
        · exact hasr e' b hx)
      exact ⟨l, by simp [CT.leaves, hl], ρ, fin (l := l) q1, q2, q3⟩

end
end Go.Sym
