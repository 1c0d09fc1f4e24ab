/- Symbolic runs of Go code over the model: loops whose counter is a number; each round has a form of its own, and may return. -/
import Derived.Test.YtmhgmobbifaeiaaSymS
set_option linter.unusedVariables false
namespace Go.Sym

/-- One round: on to the next form, out of the loop, or back to the caller; the last number tells which. -/
def countRun (X : Kx) (fuel : Nat) (b : Code) (s : Summ) (rs : List ResultVar) (τ τ' : Tmpl) (id : Nat) (ds : List Bool) : R Leaf :=
  match execCode { X with kin := τ.kin } fuel b (τ.st ds) with
  | .ok (.normal, st) => ofOpt (imgLeaf X.cx.narg τ' τ.kin st 1)
  | .ok (.ret, st) => ofOpt ((leafOf X.P s none τ.kin rs st).map fun l => { l with outs := l.outs ++ [.c 2] })
  | .ok (.exit id', st) => if id' = id then ofOpt (imgLeaf X.cx.narg τ' τ.kin st 0) else .fail 35 0
  | .need e => .need e
  | .fail a b => .fail a b

def stepL : List Int ⊕ List Int → List Int
  | .inl out => out ++ [2]
  | .inr vs => vs ++ [1]

def finF (step : Nat → List Int → List Int ⊕ List Int) (postF : List Int → List Int) : Nat → Nat → List Int → List Int
  | 0, _, vs => postF vs
  | r + 1, k, vs => match step k vs with
    | .inl out => out
    | .inr vs' => finF step postF r (k + 1) vs'

section
variable {P : Program} {Φ : Nat → List Int → List Int}

theorem row_getD {m : Nat} {vs : List Int} (h : vs.length = m) : row (fun i => vs.getD i 0) m = vs := by
  apply List.ext_getElem
  · simp [row, h]
  · intro i g1 g2; simp [row, g2]

theorem count_round {X : Kx} {fuel id : Nat} {b : Code} {T : CT} {s : Summ} {rs : List ResultVar} {τ τ' : Tmpl} {stp : List Int → List Int} (hmix : X.P.follows .mixedOrders = true)
    (htbl : ∀ f s, findS X.cx.tbl f = some s → SummOK X.P f s (Φ f)) (hτ : tmplB X τ = true) (hkin : τ'.kin = τ.kin)
    (hT : treeOf (countRun X fuel b s rs τ τ' id) 24 [] = some T) (hcov : cover X.cx.tbl τ.kin T [] [] = true)
    (hstep : ∀ l ∈ T.leaves, ∀ ρ : Nat → Int, holdsAll τ.kin (row ρ τ.kin.length) → SatTr Φ ρ l.tr → AsrOK ρ l.asr → stp (row ρ τ.kin.length) = l.outs.map (E.den ρ))
    (ρ : Nat → Int) (hρ : holdsAll τ.kin (row ρ τ.kin.length)) :
    (∃ (next : List Int) (flag : Int), stp (row ρ τ.kin.length) = next ++ [flag] ∧ holdsAll τ.kin next ∧ (flag = 0 ∨ flag = 1) ∧
      ∀ (alen : Nat → Nat) (β0 : Nat → Nat × Nat) (w0 : World) (dfr : List Deferred) (a : Act) (w : World) (β : Nat → Nat × Nat) (Q : Exit → Act → World → Prop), Good (X.env alen β0 w0 dfr) τ.slots τ.mem ρ β a w →
        (∀ ρ' a' w' β', row ρ' τ.kin.length = next → Good (X.env alen β0 w0 dfr) τ'.slots τ'.mem ρ' β' a' w' → Q (if flag = 0 then .exit id else .normal) a' w') → b.wp X.P Q a w) ∨
    (∃ (st : St) (l : Leaf) (ρ1 : Nat → Int), leafOf X.P s none τ.kin rs st = some l ∧ (∀ i k, kdOf τ.kin st i = some k → k.holds (ρ1 i)) ∧ stp (row ρ τ.kin.length) = l.outs.map (E.den ρ1) ++ [2] ∧
      ∀ (alen : Nat → Nat) (β0 : Nat → Nat × Nat) (w0 : World) (dfr : List Deferred) (a : Act) (w : World) (β : Nat → Nat × Nat) (Q : Exit → Act → World → Prop), Good (X.env alen β0 w0 dfr) τ.slots τ.mem ρ β a w →
        (∀ a' w' β', Good (X.env alen β0 w0 dfr) st.slots st.mem ρ1 β' a' w' → Q .ret a' w') → b.wp X.P Q a w) := by
  have hk0 : ∀ (i : Nat) k, τ.kin[i]? = some k → k.holds (ρ i) := fun i k hi => by
    have hlt := (List.getElem?_eq_some_iff.mp hi).1
    have := holdsAll_get hρ i k hi
    simpa [row, hlt] using this
  obtain ⟨l, hl, ρ1, q1, q2, q3⟩ := cover_ok htbl T [] [] ρ hcov hk0 (fun x k i hx => by simp at hx) (fun e b hx => by simp at hx)
  obtain ⟨ds, hds⟩ := treeOf_run hT l hl
  have hrow : row ρ1 τ.kin.length = row ρ τ.kin.length := List.map_congr_left fun j hj => q1 j (by simpa using hj)
  have hst := hstep l hl ρ1 (by rw [hrow]; exact hρ) q2 q3
  rw [hrow] at hst
  have main : ∀ (ex : Ex) (st : St) (flag : Int), execCode { X with kin := τ.kin } fuel b (τ.st ds) = .ok (ex, st) → imgLeaf X.cx.narg τ' τ.kin st flag = some l → (flag = 0 ∨ flag = 1) → ex.to = (if flag = 0 then .exit id else .normal) →
      ∃ (next : List Int) (flag : Int), stp (row ρ τ.kin.length) = next ++ [flag] ∧ holdsAll τ.kin next ∧ (flag = 0 ∨ flag = 1) ∧
        ∀ (alen : Nat → Nat) (β0 : Nat → Nat × Nat) (w0 : World) (dfr : List Deferred) (a : Act) (w : World) (β : Nat → Nat × Nat) (Q : Exit → Act → World → Prop), Good (X.env alen β0 w0 dfr) τ.slots τ.mem ρ β a w →
          (∀ ρ' a' w' β', row ρ' τ.kin.length = next → Good (X.env alen β0 w0 dfr) τ'.slots τ'.mem ρ' β' a' w' → Q (if flag = 0 then .exit id else .normal) a' w') → b.wp X.P Q a w := by
    intro ex st flag hex himg hflag hto
    obtain ⟨σ, s1, s2, s3, rfl⟩ := imgLeaf_inv himg
    rw [hkin] at s1 s3
    have hF : Fits Φ ρ1 τ.kin st := ⟨q2, fun e b hb => q3 e b hb, fun i k hi => by rw [q1 i (List.getElem?_eq_some_iff.mp hi).1]; exact hk0 i k hi⟩
    obtain ⟨_, _, hwp⟩ := execCode_ok (X := { X with kin := τ.kin }) (ρ := ρ1) hmix htbl fuel b (τ.st ds) ex st hex (tmpl_stOK hτ _ ds) hF
    refine ⟨σ.map (E.den ρ1), flag, by rw [hst]; simp [E.den], kindsMatch_holds hF.kin hF.tr s3, hflag, fun alen β0 w0 dfr a w β Q hG hQ => ?_⟩
    refine hwp alen β0 w0 dfr a w β Q (good_low hτ q1 hG) fun a' w' β' hG' => ?_
    rw [hto]
    exact hQ (rhoOf σ ρ1) a' w' _ (row_rho s1) (good_ren s2 hG')
  unfold countRun at hds
  split at hds
  · rename_i st hex
    exact .inl (main .normal st 1 hex (ofOpt_ok hds) (.inr rfl) (by simp [Ex.to]))
  · rename_i st hex
    have h1 := ofOpt_ok hds
    rw [Option.map_eq_some_iff] at h1
    obtain ⟨l', hl', rfl⟩ := h1
    obtain ⟨svs, ea, eb, _, _, _, _, hle⟩ := leafOf_inv hl'
    have hF : Fits Φ ρ1 τ.kin st := ⟨fun x k i hx => q2 x k i (by rw [hle]; exact hx), fun e b hb => q3 e b (by rw [hle]; exact hb), fun i k hi => by rw [q1 i (List.getElem?_eq_some_iff.mp hi).1]; exact hk0 i k hi⟩
    obtain ⟨_, _, hwp⟩ := execCode_ok (X := { X with kin := τ.kin }) (ρ := ρ1) hmix htbl fuel b (τ.st ds) .ret st hex (tmpl_stOK hτ _ ds) hF
    refine .inr ⟨st, l', ρ1, hl', fun i k hk => kdOf_ok hF hk, by rw [hst]; simp [E.den], fun alen β0 w0 dfr a w β Q hG hQ => ?_⟩
    exact hwp alen β0 w0 dfr a w β Q (good_low hτ q1 hG) fun a' w' β' hG' => hQ a' w' β' hG'
  · rename_i id' st hex
    split at hds
    · rename_i hid
      subst hid
      exact .inl (main (.exit id') st 0 hex (ofOpt_ok hds) (.inl rfl) (by simp [Ex.to]))
    · cases hds
  · cases hds
  · cases hds

/-- What a piece of code comes to, from a form on. -/
def EndsIn (X : Kx) (s : Summ) (rs : List ResultVar) (kin : List K) (τ : Tmpl) (vs outs : List Int) (W : (Exit → Act → World → Prop) → Act → World → Prop) : Prop :=
  ∃ (ex : Ex) (st : St) (l : Leaf) (ρ3 : Nat → Int), (ex = .ret ∨ ex = .normal) ∧ leafOf X.P s none kin rs st = some l ∧ (∀ i k, kdOf kin st i = some k → k.holds (ρ3 i)) ∧ outs = l.outs.map (E.den ρ3) ∧
    ∀ (alen : Nat → Nat) (β0 : Nat → Nat × Nat) (w0 : World) (dfr : List Deferred) (a : Act) (w : World) (β : Nat → Nat × Nat) (Q : Exit → Act → World → Prop) (ρ' : Nat → Int), row ρ' kin.length = vs →
      Good (X.env alen β0 w0 dfr) τ.slots τ.mem ρ' β a w → (∀ a' w' β', Good (X.env alen β0 w0 dfr) st.slots st.mem ρ3 β' a' w' → Q ex.to a' w') → W Q a w

theorem count_rounds {X : Kx} {fuel id : Nat} {b : Code} {y : List Code} {s : Summ} {rs : List ResultVar} {kin : List K} {τ : Nat → Tmpl} {T2 : Nat → CT} {N : Nat} {step : Nat → List Int → List Int ⊕ List Int} {postF : List Int → List Int}
    (hmix : X.P.follows .mixedOrders = true) (htbl : ∀ f s, findS X.cx.tbl f = some s → SummOK X.P f s (Φ f)) (hkin : ∀ k, (τ k).kin = kin) (hτ : ∀ k, k ≤ N → tmplB X (τ k) = true)
    (hT : ∀ k, k < N → treeOf (countRun X fuel b s rs (τ k) (τ (k + 1)) id) 24 [] = some (T2 k)) (hcov : ∀ k, k ≤ N → cover X.cx.tbl kin (T2 k) [] [] = true)
    (hTN : treeOf (countRun X fuel b s rs (τ N) (τ N) id) 24 [] = some (T2 N))
    (m2 : ∀ k, k < N → ∀ l ∈ (T2 k).leaves, ∀ ρ : Nat → Int, holdsAll kin (row ρ kin.length) → SatTr Φ ρ l.tr → AsrOK ρ l.asr → stepL (step k (row ρ kin.length)) = l.outs.map (E.den ρ))
    (mx : ∀ l ∈ (T2 N).leaves, ∀ ρ : Nat → Int, holdsAll kin (row ρ kin.length) → SatTr Φ ρ l.tr → AsrOK ρ l.asr → row ρ kin.length ++ [0] = l.outs.map (E.den ρ))
    (hpost : ∀ vs, holdsAll kin vs → EndsIn X s rs kin (τ N) vs (postF vs) fun Q => wpList' X.P y Q) :
    ∀ (r k : Nat), k + r = N → ∀ vs, holdsAll kin vs → EndsIn X s rs kin (τ k) vs (finF step postF r k vs) fun Q => Code.rounds X.P b (Exit.inBlock id (Exit.then (wpList' X.P y Q) Q)) (r + 1) := by
  intro r
  induction r with
  | zero =>
    intro k hk vs hvs
    obtain rfl : k = N := by omega
    have hlen : vs.length = kin.length := holdsAll_length hvs
    obtain ⟨ex, st, l, ρ3, h1, h2, h3, h4, h5⟩ := hpost vs hvs
    refine ⟨ex, st, l, ρ3, h1, h2, h3, h4, fun alen β0 w0 dfr a w β Q ρ' hρ' hG hQ => ?_⟩
    have key := count_round (stp := fun vs => vs ++ [0]) (τ := τ k) (τ' := τ k) hmix htbl (hτ k (Nat.le_refl _)) rfl hTN (by rw [hkin]; exact hcov k (Nat.le_refl _)) (by rw [hkin]; exact mx) ρ' (by rw [hkin, hρ']; exact hvs)
    rw [hkin] at key
    rcases key with ⟨next, flag, k1, k2, k3, k4⟩ | ⟨_, l', _, _, _, k1, _⟩
    · obtain ⟨e1, e2⟩ := List.append_inj' k1 rfl
      obtain rfl : (0 : Int) = flag := by simpa using e2
      show Code.rounds X.P b (Exit.inBlock id (Exit.then (wpList' X.P y Q) Q)) (_ + 1) a w; rw [rounds_succ]
      refine k4 alen β0 w0 dfr a w β _ hG fun ρ2 a' w' β' hρ2 hG' => ?_
      simp only [if_true, Exit.then, Exit.inBlock]
      exact h5 alen β0 w0 dfr a' w' β' Q ρ2 (by rw [hρ2, ← e1, hρ']) hG' hQ
    · exfalso
      have := (List.append_inj' k1 rfl).2
      simp at this
  | succ r ih =>
    intro k hk vs hvs
    have hlen : vs.length = kin.length := holdsAll_length hvs
    have hrow := row_getD hlen
    have key := count_round (stp := fun vs => stepL (step k vs)) (τ := τ k) (τ' := τ (k + 1)) hmix htbl (hτ k (by omega)) (by rw [hkin, hkin]) (hT k (by omega)) (by rw [hkin]; exact hcov k (by omega)) (by rw [hkin]; exact m2 k (by omega))
      (fun i => vs.getD i 0) (by rw [hkin, hrow]; exact hvs)
    rw [hkin, hrow] at key
    have low : ∀ {alen : Nat → Nat} {β0 : Nat → Nat × Nat} {w0 : World} {dfr : List Deferred} {a : Act} {w : World} {β : Nat → Nat × Nat} {ρ' : Nat → Int}, row ρ' kin.length = vs → Good (X.env alen β0 w0 dfr) (τ k).slots (τ k).mem ρ' β a w →
        Good (X.env alen β0 w0 dfr) (τ k).slots (τ k).mem (fun i => vs.getD i 0) β a w := fun {alen β0 w0 dfr a w β ρ'} hρ' hG => by
      refine good_low (hτ k (by omega)) (fun j hj => ?_) hG
      rw [hkin] at hj
      have : (row ρ' kin.length)[j]? = vs[j]? := by rw [hρ']
      simp only [row, List.getElem?_map, List.getElem?_range hj, Option.map_some] at this
      simp [← this]
    rcases key with ⟨next, flag, k1, k2, k3, k4⟩ | ⟨st, l, ρ1, k0, k2, k1, k4⟩
    · cases hs : step k vs with
      | inl out =>
        rw [hs] at k1
        have := (List.append_inj' k1 rfl).2
        simp at this
        omega
      | inr vs' =>
        rw [hs] at k1
        obtain ⟨e1, e2⟩ := List.append_inj' k1 rfl
        obtain rfl : (1 : Int) = flag := by simpa using e2
        subst e1
        obtain ⟨ex, st, l, ρ3, h1, h2, h3, h4, h5⟩ := ih (k + 1) (by omega) vs' k2
        refine ⟨ex, st, l, ρ3, h1, h2, h3, by simp only [finF, hs]; exact h4, fun alen β0 w0 dfr a w β Q ρ' hρ' hG hQ => ?_⟩
        show Code.rounds X.P b (Exit.inBlock id (Exit.then (wpList' X.P y Q) Q)) (_ + 1) a w; rw [rounds_succ]
        refine k4 alen β0 w0 dfr a w β _ (low hρ' hG) fun ρ2 a' w' β' hρ2 hG' => ?_
        rw [if_neg (by decide)]
        exact h5 alen β0 w0 dfr a' w' β' Q ρ2 hρ2 hG' hQ
    · cases hs : step k vs with
      | inr vs' =>
        rw [hs] at k1
        have := (List.append_inj' k1 rfl).2
        simp at this
      | inl out =>
        rw [hs] at k1
        obtain ⟨e1, _⟩ := List.append_inj' k1 rfl
        subst e1
        refine ⟨.ret, st, l, ρ1, .inl rfl, k0, k2, by simp only [finF, hs], fun alen β0 w0 dfr a w β Q ρ' hρ' hG hQ => ?_⟩
        show Code.rounds X.P b (Exit.inBlock id (Exit.then (wpList' X.P y Q) Q)) (_ + 1) a w; rw [rounds_succ]
        refine k4 alen β0 w0 dfr a w β _ (low hρ' hG) fun a' w' β' hG' => ?_
        exact hQ a' w' β' hG'

def countChk (P : Program) (tbl : List (Nat × Summ)) (s : Summ) (fuel : Nat) (fn : Func) (τ : Nat → Tmpl) (N : Nat) (kin : List K) (T1 : CT) (T2 : Nat → CT) (T3 : CT) : Bool :=
  (fn.name != "runtime.NumGoroutine") && P.follows .mixedOrders && initB s fn.ntmps && s.wr.isNone && decide (fn.results.toList.length ≤ 2) &&
    (match fn.body with
    | none => false
    | some c => match findLoop (flat c) with
      | none => false
      | some (x, id, b, y) => decide (treeOf (preRun (kxOf P tbl s fn.ntmps) fuel x (τ 0) s) 24 [] = some T1) &&
        ((List.range N).all fun k => decide (treeOf (countRun (kxOf P tbl s fn.ntmps) fuel b s fn.results.toList (τ k) (τ (k + 1)) id) 24 [] = some (T2 k))) &&
        decide (treeOf (countRun (kxOf P tbl s fn.ntmps) fuel b s fn.results.toList (τ N) (τ N) id) 24 [] = some (T2 N)) &&
        decide (treeOf (postRun (kxOf P tbl s fn.ntmps) fuel y (τ N) s fn.results.toList) 24 [] = some T3)) &&
    cover tbl s.inKinds T1 [] [] && ((List.range (N + 1)).all fun k => tmplB (kxOf P tbl s fn.ntmps) (τ k) && cover tbl kin (T2 k) [] []) && cover tbl kin T3 [] []

theorem summ_count {tbl : List (Nat × Summ)} {s : Summ} {f fuel N : Nat} {fn : Func} {F preF postF : List Int → List Int} {step : Nat → List Int → List Int ⊕ List Int} {τ : Nat → Tmpl} {kin : List K} (T1 : CT) (T2 : Nat → CT) (T3 : CT)
    (hf : P.funcs[f]? = some fn) (htbl : ∀ f s, findS tbl f = some s → SummOK P f s (Φ f)) (hkin : ∀ k, (τ k).kin = kin) (hchk : countChk P tbl s fuel fn τ N kin T1 T2 T3 = true)
    (m1 : ∀ l ∈ T1.leaves, ∀ ρ : Nat → Int, holdsAll s.inKinds (row ρ s.inKinds.length) → SatTr Φ ρ l.tr → AsrOK ρ l.asr → preF (row ρ s.inKinds.length) ++ [1] = l.outs.map (E.den ρ))
    (m2 : ∀ k, k < N → ∀ l ∈ (T2 k).leaves, ∀ ρ : Nat → Int, holdsAll kin (row ρ kin.length) → SatTr Φ ρ l.tr → AsrOK ρ l.asr → stepL (step k (row ρ kin.length)) = l.outs.map (E.den ρ))
    (mx : ∀ l ∈ (T2 N).leaves, ∀ ρ : Nat → Int, holdsAll kin (row ρ kin.length) → SatTr Φ ρ l.tr → AsrOK ρ l.asr → row ρ kin.length ++ [0] = l.outs.map (E.den ρ))
    (m3 : ∀ l ∈ T3.leaves, ∀ ρ : Nat → Int, holdsAll kin (row ρ kin.length) → SatTr Φ ρ l.tr → AsrOK ρ l.asr → postF (row ρ kin.length) = l.outs.map (E.den ρ))
    (hF : ∀ ins, holdsAll s.inKinds ins → F ins = finF step postF N 0 (preF ins)) : SummOK P f s F := by
  simp only [countChk, Bool.and_eq_true, decide_eq_true_eq] at hchk
  obtain ⟨⟨⟨⟨⟨⟨⟨⟨h1, hmix⟩, hinit⟩, h4⟩, hres⟩, h7⟩, c1⟩, c2⟩, c3⟩ := hchk
  have hname : (fn.name == "runtime.NumGoroutine") = false := by simpa using h1
  have hwr : s.wr = none := by simpa using h4
  simp only [List.all_eq_true, List.mem_range, Bool.and_eq_true] at c2
  obtain ⟨c, x, id, b, y, hc, hfl, t1, t2, tN, t3⟩ : ∃ c x id b y, fn.body = some c ∧ findLoop (flat c) = some (x, id, b, y) ∧ treeOf (preRun (kxOf P tbl s fn.ntmps) fuel x (τ 0) s) 24 [] = some T1 ∧
      (∀ k, k < N → treeOf (countRun (kxOf P tbl s fn.ntmps) fuel b s fn.results.toList (τ k) (τ (k + 1)) id) 24 [] = some (T2 k)) ∧
      treeOf (countRun (kxOf P tbl s fn.ntmps) fuel b s fn.results.toList (τ N) (τ N) id) 24 [] = some (T2 N) ∧ treeOf (postRun (kxOf P tbl s fn.ntmps) fuel y (τ N) s fn.results.toList) 24 [] = some T3 := by
    split at h7
    · cases h7
    · rename_i c hc
      split at h7
      · cases h7
      · rename_i x id b y hf
        simp only [Bool.and_eq_true, decide_eq_true_eq, List.all_eq_true, List.mem_range] at h7
        exact ⟨c, x, id, b, y, hc, hf, h7.1.1.1, h7.1.1.2, h7.1.2, h7.2⟩
  refine summ_core (tbl := tbl) hf hname hc hinit fn.results.toList (by simp) hres fun al hal ins hins => ?_
  have hal' : al = none := by simpa [alsOf, hwr] using hal
  subst hal'
  -- ahead of the loop
  have hk0 : ∀ (i : Nat) k, s.inKinds[i]? = some k → k.holds (ins.getD i 0) := fun i k hi => holdsAll_get hins i k hi
  obtain ⟨l1, hl1, ρ1, q1, q2, q3⟩ := cover_ok htbl T1 [] [] (fun j => ins.getD j 0) c1 hk0 (fun x k i hx => by simp at hx) (fun e b hx => by simp at hx)
  obtain ⟨ds1, hds1⟩ := treeOf_run t1 l1 hl1
  have hrow1 : row ρ1 s.inKinds.length = ins := by
    rw [← row_getD (holdsAll_length hins)]
    exact List.map_congr_left fun j hj => q1 j (by simpa using hj)
  have e1 := m1 l1 hl1 ρ1 (by rw [hrow1]; exact hins) q2 q3
  rw [hrow1] at e1
  obtain ⟨st1, hex1, himg1⟩ : ∃ st1, execList (kxOf P tbl s fn.ntmps) fuel x (initSt s none ds1) = .ok (.normal, st1) ∧ imgLeaf s.args.length (τ 0) s.inKinds st1 1 = some l1 := by
    unfold preRun at hds1
    split at hds1
    · rename_i st1 h1; exact ⟨st1, h1, ofOpt_ok hds1⟩
    · cases hds1
    · cases hds1
    · cases hds1
  obtain ⟨σ1, s1, s2, s3, hle1⟩ := imgLeaf_inv himg1
  subst hle1
  rw [hkin] at s1 s3
  have hF1 : Fits Φ ρ1 s.inKinds st1 := ⟨q2, fun e b hb => q3 e b hb, fun i k hi => by rw [q1 i (List.getElem?_eq_some_iff.mp hi).1]; exact hk0 i k hi⟩
  obtain ⟨_, wp1⟩ := execList_ok (X := kxOf P tbl s fn.ntmps) (ρ := ρ1) hmix htbl fuel _ _ _ _ hex1 (start_stOK hinit ds1) hF1
  have hpre : preF ins = σ1.map (E.den ρ1) := by
    have : preF ins ++ [1] = σ1.map (E.den ρ1) ++ [1] := by rw [e1]; simp [E.den]
    exact List.append_cancel_right this
  have hvs : holdsAll kin (preF ins) := by rw [hpre]; exact kindsMatch_holds hF1.kin hF1.tr s3
  -- behind it
  have hpost : ∀ vs, holdsAll kin vs → EndsIn (kxOf P tbl s fn.ntmps) s fn.results.toList kin (τ N) vs (postF vs) fun Q => wpList' P y Q := by
    intro vf hvf
    have hkf : ∀ (i : Nat) k, kin[i]? = some k → k.holds (vf.getD i 0) := fun i k hi => holdsAll_get hvf i k hi
    obtain ⟨l3, hl3, ρ3, p1, p2, p3⟩ := cover_ok htbl T3 [] [] (fun j => vf.getD j 0) c3 hkf (fun x k i hx => by simp at hx) (fun e b hx => by simp at hx)
    obtain ⟨ds3, hds3⟩ := treeOf_run t3 l3 hl3
    have hrow3 : row ρ3 kin.length = vf := by
      rw [← row_getD (holdsAll_length hvf)]
      exact List.map_congr_left fun j hj => p1 j (by simpa using hj)
    have e3 := m3 l3 hl3 ρ3 (by rw [hrow3]; exact hvf) p2 p3
    rw [hrow3] at e3
    obtain ⟨ex3, st3, hex3, hend, hleaf⟩ : ∃ ex3 st3, execList { kxOf P tbl s fn.ntmps with kin := kin } fuel y ((τ N).st ds3) = .ok (ex3, st3) ∧ (ex3 = .ret ∨ ex3 = .normal) ∧ leafOf P s none kin fn.results.toList st3 = some l3 := by
      unfold postRun at hds3
      rw [hkin] at hds3
      split at hds3
      · rename_i ex st h1
        split at hds3
        · rename_i he; exact ⟨ex, st, h1, he, ofOpt_ok hds3⟩
        · cases hds3
      · cases hds3
      · cases hds3
    have hleaf' := hleaf
    obtain ⟨svs, ea, eb, _, _, _, _, hle3⟩ := leafOf_inv hleaf'
    have hF3 : Fits Φ ρ3 kin st3 := ⟨fun x k i hx => p2 x k i (by rw [hle3]; exact hx), fun e b hb => p3 e b (by rw [hle3]; exact hb), fun i k hi => by rw [p1 i (List.getElem?_eq_some_iff.mp hi).1]; exact hkf i k hi⟩
    have hτN := (c2 N (by omega)).1
    obtain ⟨_, wp3⟩ := execList_ok (X := { kxOf P tbl s fn.ntmps with kin := kin }) (ρ := ρ3) hmix htbl fuel _ _ _ _ hex3 (tmpl_stOK hτN _ ds3) hF3
    refine ⟨ex3, st3, l3, ρ3, hend, hleaf, fun i k hk => kdOf_ok hF3 hk, e3, fun alen β0 w0 dfr a w β Q ρ' hρ' hG hQ => ?_⟩
    refine wp3 alen β0 w0 dfr a w β Q (good_low hτN (fun j hj => ?_) hG) hQ
    rw [hkin] at hj
    have : (row ρ' kin.length)[j]? = (row ρ3 kin.length)[j]? := by rw [hρ', hrow3]
    simpa [row, hj] using this.symm
  obtain ⟨ex3, st3, l3, ρ3, hend, hleaf, hkd, hout, wp2⟩ := count_rounds (X := kxOf P tbl s fn.ntmps) (step := step) hmix htbl hkin (fun k hk => (c2 k (by omega)).1) t2 (fun k hk => (c2 k (by omega)).2) tN m2 mx hpost N 0 (by omega) (preF ins) hvs
  refine ⟨ex3, st3, kin, ρ1, ρ3, l3, q1, hend, hleaf, hkd, by rw [hF ins hins, hout], fun alen β0 w0 a w β Q hG hQ => ?_⟩
  refine flat_wp c ?_
  rw [findLoop_eq hfl]
  refine wpList_join x _ ?_
  refine wp1 alen β0 w0 [] a w β _ hG fun a' w' β' hG' => ?_
  simp only [Ex.to, Exit.then, wpList']
  refine wp_block (wp_loop_rounds (N + 1) ?_)
  have := wp2 alen β0 w0 [] a' w' _ Q (rhoOf σ1 ρ1) (by rw [row_rho s1, hpre]) (good_ren s2 hG') hQ
  exact this

end
end Go.Sym
