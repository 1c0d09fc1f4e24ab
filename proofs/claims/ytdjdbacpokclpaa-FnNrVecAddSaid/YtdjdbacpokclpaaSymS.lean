/- Symbolic runs of Go code over the model: loops whose every round begins in the same form. -/
import Derived.Test.YtdjdbacpokclpaaSymR
import Derived.Test.YtdjdbacpokclpaaSymV
set_option linter.unusedVariables false
namespace Go.Sym

/-- The form in which every round begins. -/
structure Tmpl where
  kin : List K
  slots : List (Nat × SV)
  mem : List (Nat × List S)
  nr : Nat

def Tmpl.st (τ : Tmpl) (ds : List Bool) : St := { nv := τ.kin.length, nr := τ.nr, slots := τ.slots, mem := τ.mem, trace := [], asr := [], dec := ds }

/-- Where a region of the form lies in a state. -/
def regOf (τ : Tmpl) (st : St) (r : Nat) : Nat :=
  if (alook τ.mem r).isSome then
    match τ.slots.findSome? fun (t, sv) => (match sv, alook st.slots t with
      | .s (.slc r' _ _ _), some (.s (.slc q _ _ _)) => if r' = r then some q else none
      | _, _ => none) with
    | some q => q
    | none => r
  else r

def imgS (i : Nat) (a b : S) : Option E :=
  match a, b with
  | .int k (.v j), .int k' e => if j = i ∧ k = k' then some e else none
  | .bool (.v j), .bool e => if j = i then some e else none
  | _, _ => none

def imgRow (i : Nat) : List S → List S → Option E
  | a :: xs, b :: ys => match imgS i a b with
    | some e => some e
    | none => imgRow i xs ys
  | _, _ => none

def imgOf (τ : Tmpl) (st : St) (i : Nat) : Option E :=
  match τ.slots.findSome? fun (t, sv) => (match sv, alook st.slots t with | .s a, some (.s b) => imgS i a b | _, _ => none) with
  | some e => some e
  | none => τ.mem.findSome? fun (r, cs) => (match alook st.mem (regOf τ st r) with | some ds => imgRow i cs ds | none => none)

def E.sub (σ : List E) : E → E
  | .v i => σ.getD i (.v i)
  | .c n => .c n

def S.sub (σ : List E) (π : Nat → Nat) : S → S
  | .int k e => .int k (e.sub σ)
  | .bool e => .bool (e.sub σ)
  | .ptr r o => .ptr (π r) o
  | .slc r o l c => .slc (π r) o l c
  | .undef => .undef
  | .nilp => .nilp
  | .nils => .nils

def SV.sub (σ : List E) (π : Nat → Nat) : SV → SV
  | .s x => .s (x.sub σ π)
  | .agg xs => .agg (xs.map (S.sub σ π))
  | .tup xs => .tup (xs.map (S.sub σ π))

def fitB (narg : Nat) (τ : Tmpl) (st : St) (σ : List E) : Bool :=
  let π := regOf τ st
  (τ.slots.all fun (t, sv) => decide (alook st.slots t = some (sv.sub σ π)) && sv.refs.all fun r => (alook τ.mem r).isSome) &&
  (τ.mem.all fun (r, cs) => decide (alook st.mem (π r) = some (cs.map (S.sub σ π))) && cs.all fun s => s.ref.isNone) &&
  (τ.mem.all fun (r, _) => if r < narg then decide (π r = r) else decide (narg ≤ π r)) &&
  (τ.mem.all fun (r, _) => τ.mem.all fun (r', _) => r == r' || π r != π r')

def rhoOf (σ : List E) (ρ : Nat → Int) (i : Nat) : Int := (σ.getD i (.v i)).den ρ

/-- The form's numbers, as a state has them; the last number tells how the piece of code ends. -/
def imgLeaf (narg : Nat) (τ : Tmpl) (kin : List K) (st : St) (flag : Int) : Option Leaf :=
  match (List.range τ.kin.length).mapM (imgOf τ st) with
  | some σ => if fitB narg τ st σ && kindsMatch kin st.trace τ.kin σ then some { tr := st.trace, asr := st.asr, outs := σ ++ [.c flag] } else none
  | none => none

def execList (X : Kx) (fuel : Nat) : List Code → St → R (Ex × St)
  | [], st => .ok (.normal, st)
  | c :: cs, st => match execCode X fuel c st with
    | .ok (.normal, st') => execList X fuel cs st'
    | .ok (.exit id, st') => .ok (.exit id, st')
    | .ok (.ret, st') => .ok (.ret, st')
    | .need e => .need e
    | .fail a b => .fail a b

def flat : Code → List Code
  | .seq x y => flat x ++ flat y
  | c => [c]

def wpList' (P : Program) : List Code → (Exit → Act → World → Prop) → Act → World → Prop
  | [], Q, a, w => Q .normal a w
  | c :: cs, Q, a, w => c.wp P (Exit.then (wpList' P cs Q) Q) a w

def findLoop : List Code → Option (List Code × Nat × Code × List Code)
  | [] => none
  | c :: cs => match c with
    | .block id (.loop b) => some ([], id, b, cs)
    | c => match findLoop cs with
      | some (x, id, b, y) => some (c :: x, id, b, y)
      | none => none

def S.low (n : Nat) : S → Bool
  | .int _ e | .bool e => e.below n
  | _ => true

def tmplB (X : Kx) (τ : Tmpl) : Bool :=
  decide (X.cx.narg ≤ τ.nr) && (τ.mem.all fun (r, cs) => decide (r < τ.nr) && cs.all (S.low τ.kin.length)) && τ.slots.all fun (t, sv) => decide (t < X.sz) && match sv with
    | .s x => x.low τ.kin.length
    | _ => false

def ofOpt (o : Option Leaf) : R Leaf := match o with | some l => .ok l | none => .fail 30 0

def loopRun (X : Kx) (fuel : Nat) (b : Code) (τ : Tmpl) (id : Nat) (ds : List Bool) : R Leaf :=
  match execCode { X with kin := τ.kin } fuel b (τ.st ds) with
  | .ok (.normal, st) => ofOpt (imgLeaf X.cx.narg τ τ.kin st 1)
  | .ok (.exit id', st) => if id' = id then ofOpt (imgLeaf X.cx.narg τ τ.kin st 0) else .fail 31 0
  | .ok (.ret, _) => .fail 32 0
  | .need e => .need e
  | .fail a b => .fail a b

def iterL (step : List Int → List Int) (m : Nat) : Nat → List Int → Option (List Int)
  | 0, _ => none
  | n + 1, vs => if (step vs).getD m 0 = 0 then some ((step vs).take m) else iterL step m n ((step vs).take m)

def preRun (X : Kx) (fuel : Nat) (cs : List Code) (τ : Tmpl) (s : Summ) (ds : List Bool) : R Leaf :=
  match execList X fuel cs (initSt s none ds) with
  | .ok (.normal, st) => ofOpt (imgLeaf X.cx.narg τ X.kin st 1)
  | .ok (_, _) => .fail 33 0
  | .need e => .need e
  | .fail a b => .fail a b

def postRun (X : Kx) (fuel : Nat) (cs : List Code) (τ : Tmpl) (s : Summ) (rs : List ResultVar) (ds : List Bool) : R Leaf :=
  match execList { X with kin := τ.kin } fuel cs (τ.st ds) with
  | .ok (ex, st) => if ex = .ret ∨ ex = .normal then ofOpt (leafOf X.P s none τ.kin rs st) else .fail 34 0
  | .need e => .need e
  | .fail a b => .fail a b

section
variable {P : Program} {Φ : Nat → List Int → List Int} {ρ : Nat → Int} {β : Nat → Nat × Nat} {w : World} {a : Act} {Ev : Env} {τ : Tmpl} {st : St} {σ : List E}

theorem E.sub_den {e : E} : (e.sub σ).den ρ = e.den (rhoOf σ ρ) := by cases e <;> rfl

theorem S.sub_den {π : Nat → Nat} {x : S} : (x.sub σ π).den ρ β = x.den (rhoOf σ ρ) (fun r => β (π r)) := by
  cases x <;> simp [S.sub, S.den, E.sub_den]

theorem SV.sub_den {π : Nat → Nat} {x : SV} : (x.sub σ π).den ρ β = x.den (rhoOf σ ρ) (fun r => β (π r)) := by
  cases x with
  | s x => exact S.sub_den
  | agg xs => simp [SV.sub, SV.den, Function.comp_def, S.sub_den]
  | tup xs => simp [SV.sub, SV.den, Function.comp_def, S.sub_den]

/-- A state that has the form is of it. -/
theorem good_ren (h : fitB Ev.cx.narg τ st σ = true) (hG : Good Ev st.slots st.mem ρ β a w) : Good Ev τ.slots τ.mem (rhoOf σ ρ) (fun r => β (regOf τ st r)) a w := by
  simp only [fitB, Bool.and_eq_true, List.all_eq_true, decide_eq_true_eq] at h
  obtain ⟨⟨⟨h1, h2⟩, h3⟩, h4⟩ := h
  have hrow : ∀ r cs, alook τ.mem r = some cs → alook st.mem (regOf τ st r) = some (cs.map (S.sub σ (regOf τ st))) ∧ ∀ s ∈ cs, s.ref = none := fun r cs hr => by
    obtain ⟨k1, k2⟩ := h2 _ (alook_mem hr)
    exact ⟨k1, fun s hs => by simpa using k2 s hs⟩
  have hsome : ∀ r, (alook τ.mem r).isSome = true → (alook st.mem (regOf τ st r)).isSome = true := fun r hr => by
    obtain ⟨cs, hcs⟩ := Option.isSome_iff_exists.mp hr
    rw [(hrow r cs hcs).1]
    rfl
  have hreg : ∀ r cs, alook τ.mem r = some cs → if r < Ev.cx.narg then regOf τ st r = r else Ev.cx.narg ≤ regOf τ st r := fun r cs hr => by
    have := h3 _ (alook_mem hr)
    simp only at this
    split at this <;> rename_i hlt
    · rw [if_pos hlt]; simpa using this
    · rw [if_neg hlt]; simpa using this
  have hwr : ∀ r cs, alook τ.mem r = some cs → Ev.cx.writable r = true → Ev.cx.writable (regOf τ st r) = true := fun r cs hr hw => by
    have := hreg r cs hr
    split at this
    · rw [this]; exact hw
    · simp [Cx.writable, this]
  refine ⟨hG.size, hG.dfr, fun t sv ht => ?_, ⟨fun r cs hr j s hj => ?_, fun r cs hr hw j hj => ?_, fun r cs r' cs' hr hr' hne hw => ?_⟩, fun r cs hr s hs q hq => ?_, hG.keeps, fun r hr hn => ?_, fun r hr => ?_, fun r hr => hG.blk _ (hsome r hr), fun r cs hn hr => ?_⟩
  · obtain ⟨k1, k2⟩ := h1 _ (alook_mem ht)
    refine ⟨?_, k2⟩
    rw [(hG.sok t _ k1).1, SV.sub_den]
  · obtain ⟨k1, _⟩ := hrow r cs hr
    have := hG.mok.cell _ _ k1 j (s.sub σ (regOf τ st)) (by rw [List.getElem?_map, hj]; rfl)
    rw [this, S.sub_den]
  · obtain ⟨k1, _⟩ := hrow r cs hr
    exact hG.mok.free _ _ k1 (hwr r cs hr hw) j (by simpa using hj)
  · obtain ⟨k1, _⟩ := hrow r cs hr
    obtain ⟨k1', _⟩ := hrow r' cs' hr'
    have hd := h4 _ (alook_mem hr) _ (alook_mem hr')
    simp only [Bool.or_eq_true, beq_iff_eq, bne_iff_ne, ne_eq] at hd
    have := hG.mok.apart _ _ _ _ k1 k1' (hd.resolve_left hne) (hwr r cs hr hw)
    simpa using this
  · rw [(hrow r cs hr).2 s hs] at hq
    cases hq
  · obtain ⟨cs, hcs⟩ := Option.isSome_iff_exists.mp hr
    have := hreg r cs hcs
    rw [if_neg (by omega)] at this
    exact hG.fresh _ (hsome r hr) this
  · have : regOf τ st r = r := by
      cases hh : alook τ.mem r with
      | none => simp [regOf, hh]
      | some cs =>
        have := hreg r cs hh
        rwa [if_pos hr] at this
    simp only [this]
    exact hG.args r hr
  · obtain ⟨k1, _⟩ := hrow r cs hr
    have := hreg r cs hr
    rw [if_pos hn] at this
    rw [this] at k1
    have := hG.lens r _ hn k1
    simpa using this

theorem then_mono {K K' : Act → World → Prop} {Q Q' : Exit → Act → World → Prop} (hK : ∀ a w, K a w → K' a w) (hQ : ∀ e a w, Q e a w → Q' e a w) (e : Exit) (a : Act) (w : World) (h : Exit.then K Q e a w) : Exit.then K' Q' e a w := by
  cases e <;> first | exact hK _ _ h | exact hQ _ _ _ h

theorem wpList_mono {Q Q' : Exit → Act → World → Prop} (hQ : ∀ e a w, Q e a w → Q' e a w) : ∀ (xs : List Code) {a : Act} {w : World}, wpList' P xs Q a w → wpList' P xs Q' a w
  | [], a, w, h => hQ _ _ _ h
  | x :: xs, a, w, h => Code.wp_mono (then_mono (fun _ _ h => wpList_mono hQ xs h) hQ) h

theorem wpList_split {Q : Exit → Act → World → Prop} : ∀ (xs ys : List Code) {a : Act} {w : World}, wpList' P (xs ++ ys) Q a w → wpList' P xs (Exit.then (wpList' P ys Q) Q) a w
  | [], ys, a, w, h => h
  | x :: xs, ys, a, w, h => by
    refine Code.wp_mono (fun e a' w' he => ?_) h
    cases e <;> first | exact wpList_split xs ys he | exact he

theorem wpList_join {Q : Exit → Act → World → Prop} : ∀ (xs ys : List Code) {a : Act} {w : World}, wpList' P xs (Exit.then (wpList' P ys Q) Q) a w → wpList' P (xs ++ ys) Q a w
  | [], ys, a, w, h => h
  | x :: xs, ys, a, w, h => by
    refine Code.wp_mono (fun e a' w' he => ?_) h
    cases e <;> first | exact wpList_join xs ys he | exact he

theorem flat_wp (c : Code) : ∀ {Q : Exit → Act → World → Prop} {a : Act} {w : World}, wpList' P (flat c) Q a w → c.wp P Q a w := by
  have one : ∀ (c : Code) {Q : Exit → Act → World → Prop} {a : Act} {w : World}, wpList' P [c] Q a w → c.wp P Q a w := fun c Q a w h => by
    refine Code.wp_mono (fun e a' w' he => ?_) h
    cases e <;> exact he
  induction c with
  | seq x y ihx ihy =>
    intro Q a w h
    exact wp_seq (Code.wp_mono (then_mono (fun _ _ h => ihy h) fun _ _ _ h => h) (ihx (wpList_split (flat x) (flat y) h)))
  | _ => intro Q a w h; exact one _ h

theorem findLoop_eq : ∀ {cs x y : List Code} {id : Nat} {b : Code}, findLoop cs = some (x, id, b, y) → cs = x ++ .block id (.loop b) :: y
  | [], x, y, id, b, h => by simp [findLoop] at h
  | c :: cs, x, y, id, b, h => by
    have rest : ∀ {c : Code}, (match findLoop cs with | some (x, id, b, y) => some (c :: x, id, b, y) | none => none) = some (x, id, b, y) → c :: cs = x ++ .block id (.loop b) :: y := fun {c} h => by
      split at h
      · rename_i x' id' b' y' hf
        cases h
        rw [findLoop_eq hf]
        rfl
      · cases h
    unfold findLoop at h
    split at h
    · cases h; rfl
    · exact rest h

theorem ofOpt_ok {o : Option Leaf} {l : Leaf} (h : ofOpt o = .ok l) : o = some l := by
  cases o <;> simp [ofOpt] at h
  rw [h]

theorem imgLeaf_inv {narg : Nat} {kin : List K} {flag : Int} {l : Leaf} (h : imgLeaf narg τ kin st flag = some l) :
    ∃ σ, σ.length = τ.kin.length ∧ fitB narg τ st σ = true ∧ kindsMatch kin st.trace τ.kin σ = true ∧ l = { tr := st.trace, asr := st.asr, outs := σ ++ [.c flag] } := by
  unfold imgLeaf at h
  split at h
  · rename_i σ hσ
    split at h
    · rename_i hok
      cases h
      simp only [Bool.and_eq_true] at hok
      exact ⟨σ, by simpa using (mapM_some _ _ _ hσ).1, hok.1, hok.2, rfl⟩
    · cases h
  · cases h

theorem row_rho {m : Nat} (h : σ.length = m) : row (rhoOf σ ρ) m = σ.map (E.den ρ) := by
  apply List.ext_getElem
  · simp [row, h]
  · intro i h1 h2
    have hi : i < σ.length := by simpa using h2
    simp [row, rhoOf, hi]

theorem execList_le {X : Kx} (fuel : Nat) : ∀ (cs : List Code) (st : St) (ex : Ex) (st' : St), execList X fuel cs st = .ok (ex, st') → st.Le st'
  | [], st, ex, st', h => by simp only [execList] at h; cases h; exact St.Le.refl _
  | c :: cs, st, ex, st', h => by
    simp only [execList] at h
    split at h
    · rename_i st1 h1; exact (execCode_le fuel c _ _ _ h1).trans (execList_le fuel cs _ _ _ h)
    · rename_i h1; cases h; exact execCode_le fuel c _ _ _ h1
    · rename_i h1; cases h; exact execCode_le fuel c _ _ _ h1
    · cases h
    · cases h

theorem execList_ok {X : Kx} (hmix : X.P.follows .mixedOrders = true) (htbl : ∀ f s, findS X.cx.tbl f = some s → SummOK X.P f s (Φ f)) (fuel : Nat) :
    ∀ (cs : List Code) (st : St) (ex : Ex) (st' : St), execList X fuel cs st = .ok (ex, st') → StOK X st → Fits Φ ρ X.kin st' →
      StOK X st' ∧ ∀ (alen : Nat → Nat) (β0 : Nat → Nat × Nat) (w0 : World) (dfr : List Deferred) (a : Act) (w : World) (β : Nat → Nat × Nat) (Q : Exit → Act → World → Prop),
        Good (X.env alen β0 w0 dfr) st.slots st.mem ρ β a w → (∀ a' w' β', Good (X.env alen β0 w0 dfr) st'.slots st'.mem ρ β' a' w' → Q ex.to a' w') → wpList' X.P cs Q a w
  | [], st, ex, st', h, hs, hF => by
    simp only [execList] at h
    cases h
    exact ⟨hs, fun alen β0 w0 dfr a w β Q hG hQ => hQ a w β hG⟩
  | c :: cs, st, ex, st', h, hs, hF => by
    simp only [execList] at h
    split at h
    · rename_i st1 h1
      have hF1 := hF.of_le (execList_le fuel cs _ _ _ h)
      obtain ⟨_, a2, a3⟩ := execCode_ok (ρ := ρ) hmix htbl fuel c st _ st1 h1 hs hF1
      obtain ⟨b2, b3⟩ := execList_ok hmix htbl fuel cs st1 ex st' h a2 hF
      exact ⟨b2, fun alen β0 w0 dfr a w β Q hG hQ => a3 alen β0 w0 dfr a w β _ hG fun a' w' β' hG' => b3 alen β0 w0 dfr a' w' β' Q hG' hQ⟩
    · rename_i id st1 h1
      cases h
      obtain ⟨_, a2, a3⟩ := execCode_ok (ρ := ρ) hmix htbl fuel c st _ _ h1 hs hF
      exact ⟨a2, fun alen β0 w0 dfr a w β Q hG hQ => a3 alen β0 w0 dfr a w β _ hG fun a' w' β' hG' => hQ a' w' β' hG'⟩
    · rename_i st1 h1
      cases h
      obtain ⟨_, a2, a3⟩ := execCode_ok (ρ := ρ) hmix htbl fuel c st _ _ h1 hs hF
      exact ⟨a2, fun alen β0 w0 dfr a w β Q hG hQ => a3 alen β0 w0 dfr a w β _ hG fun a' w' β' hG' => hQ a' w' β' hG'⟩
    · cases h
    · cases h

theorem rounds_peel {P : Program} {b : Code} {Q : Exit → Act → World → Prop} {n : Nat} : ∀ (k : Nat) {a : Act} {w : World}, wpList' P (List.replicate k b) (Exit.then (Code.rounds P b Q n) Q) a w → Code.rounds P b Q (k + n) a w
  | 0, a, w, h => by rw [Nat.zero_add]; exact h
  | k + 1, a, w, h => by
    rw [show k + 1 + n = (k + n) + 1 by omega, rounds_succ]
    rw [List.replicate_succ] at h
    refine Code.wp_mono (fun e a' w' he => ?_) h
    cases e <;> first | exact rounds_peel k he | exact he

/-- Only the form's own numbers matter. -/
theorem good_low {X : Kx} {alen : Nat → Nat} {β0 : Nat → Nat × Nat} {w0 : World} {dfr : List Deferred} (hτ : tmplB X τ = true) {ρ ρ' : Nat → Int} (h : ∀ j, j < τ.kin.length → ρ' j = ρ j)
    (hG : Good (X.env alen β0 w0 dfr) τ.slots τ.mem ρ β a w) : Good (X.env alen β0 w0 dfr) τ.slots τ.mem ρ' β a w := by
  simp only [tmplB, Bool.and_eq_true, List.all_eq_true, decide_eq_true_eq] at hτ
  obtain ⟨⟨_, h2⟩, h3⟩ := hτ
  have den : ∀ x : S, x.low τ.kin.length = true → x.den ρ' β = x.den ρ β := fun x hx => by
    cases x <;> simp only [S.low] at hx <;> simp only [S.den]
    · rw [den_congr_below h hx]
    · rw [den_congr_below h hx]
  have denv : ∀ t sv, alook τ.slots t = some sv → sv.den ρ' β = sv.den ρ β := fun t sv ht => by
    have := (h3 _ (alook_mem ht)).2
    cases sv with
    | s x => exact den x this
    | agg _ => cases this
    | tup _ => cases this
  exact ⟨hG.size, hG.dfr, fun t sv ht => ⟨by rw [(hG.sok t sv ht).1, denv t sv ht], (hG.sok t sv ht).2⟩,
    ⟨fun r cs hr j s hj => by rw [hG.mok.cell r cs hr j s hj, den s ((h2 _ (alook_mem hr)).2 s (List.mem_of_getElem? hj))], hG.mok.free, hG.mok.apart⟩, hG.msc, hG.keeps, hG.fresh, hG.args, hG.blk, hG.lens⟩

theorem tmpl_stOK {X : Kx} (hτ : tmplB X τ = true) (kin : List K) (ds : List Bool) : StOK { X with kin := kin } (τ.st ds) := by
  simp only [tmplB, Bool.and_eq_true, List.all_eq_true, decide_eq_true_eq] at hτ
  obtain ⟨⟨h1, h2⟩, h3⟩ := hτ
  refine ⟨h1, fun r hr => ?_, fun t sv ht => (h3 _ (alook_mem ht)).1⟩
  cases hh : alook (τ.st ds).mem r with
  | none => rfl
  | some cs =>
    have h4 := (h2 _ (alook_mem hh)).1
    have h5 : τ.nr ≤ r := hr
    simp only at h4
    omega

theorem loop_round {X : Kx} {fuel id : Nat} {b : Code} {T : CT} {step : List Int → List Int} (hmix : X.P.follows .mixedOrders = true) (htbl : ∀ f s, findS X.cx.tbl f = some s → SummOK X.P f s (Φ f)) (hτ : tmplB X τ = true)
    (hT : treeOf (loopRun X fuel b τ id) 24 [] = some T) (hcov : cover X.cx.tbl τ.kin T [] [] = true)
    (hstep : ∀ l ∈ T.leaves, ∀ ρ : Nat → Int, holdsAll τ.kin (row ρ τ.kin.length) → SatTr Φ ρ l.tr → AsrOK ρ l.asr → step (row ρ τ.kin.length) = l.outs.map (E.den ρ))
    (ρ : Nat → Int) (hρ : holdsAll τ.kin (row ρ τ.kin.length)) :
    ∃ (next : List Int) (flag : Int), step (row ρ τ.kin.length) = next ++ [flag] ∧ holdsAll τ.kin next ∧ (flag = 0 ∨ flag = 1) ∧
      ∀ (alen : Nat → Nat) (β0 : Nat → Nat × Nat) (w0 : World) (dfr : List Deferred) (a : Act) (w : World) (β : Nat → Nat × Nat) (Q : Exit → Act → World → Prop), Good (X.env alen β0 w0 dfr) τ.slots τ.mem ρ β a w →
        (∀ ρ' a' w' β', row ρ' τ.kin.length = next → Good (X.env alen β0 w0 dfr) τ.slots τ.mem ρ' β' a' w' → Q (if flag = 0 then .exit id else .normal) a' w') → b.wp X.P Q a w := by
  have hk0 : ∀ (i : Nat) k, τ.kin[i]? = some k → k.holds (ρ i) := fun i k hi => by
    have hlt := (List.getElem?_eq_some_iff.mp hi).1
    have := holdsAll_get hρ i k hi
    simpa [row, hlt] using this
  obtain ⟨l, hl, ρ1, q1, q2, q3⟩ := cover_ok htbl T [] [] ρ hcov hk0 (fun x k i hx => by simp at hx) (fun e b hx => by simp at hx)
  obtain ⟨ds, hds⟩ := treeOf_run hT l hl
  have hrow : row ρ1 τ.kin.length = row ρ τ.kin.length := List.map_congr_left fun j hj => q1 j (by simpa using hj)
  have hst := hstep l hl ρ1 (by rw [hrow]; exact hρ) q2 q3
  rw [hrow] at hst
  have main : ∀ (ex : Ex) (st : St) (flag : Int), execCode { X with kin := τ.kin } fuel b (τ.st ds) = .ok (ex, st) → imgLeaf X.cx.narg τ τ.kin st flag = some l → (flag = 0 ∨ flag = 1) → ex.to = (if flag = 0 then .exit id else .normal) →
      ∃ (next : List Int) (flag : Int), step (row ρ τ.kin.length) = next ++ [flag] ∧ holdsAll τ.kin next ∧ (flag = 0 ∨ flag = 1) ∧
        ∀ (alen : Nat → Nat) (β0 : Nat → Nat × Nat) (w0 : World) (dfr : List Deferred) (a : Act) (w : World) (β : Nat → Nat × Nat) (Q : Exit → Act → World → Prop), Good (X.env alen β0 w0 dfr) τ.slots τ.mem ρ β a w →
          (∀ ρ' a' w' β', row ρ' τ.kin.length = next → Good (X.env alen β0 w0 dfr) τ.slots τ.mem ρ' β' a' w' → Q (if flag = 0 then .exit id else .normal) a' w') → b.wp X.P Q a w := by
    intro ex st flag hex himg hflag hto
    obtain ⟨σ, s1, s2, s3, rfl⟩ := imgLeaf_inv himg
    have hF : Fits Φ ρ1 τ.kin st := ⟨q2, fun e b hb => q3 e b hb, fun i k hi => by rw [q1 i (List.getElem?_eq_some_iff.mp hi).1]; exact hk0 i k hi⟩
    obtain ⟨_, _, hwp⟩ := execCode_ok (X := { X with kin := τ.kin }) (ρ := ρ1) hmix htbl fuel b (τ.st ds) ex st hex (tmpl_stOK hτ _ ds) hF
    refine ⟨σ.map (E.den ρ1), flag, by rw [hst]; simp [E.den], kindsMatch_holds hF.kin hF.tr s3, hflag, fun alen β0 w0 dfr a w β Q hG hQ => ?_⟩
    refine hwp alen β0 w0 dfr a w β Q (good_low hτ q1 hG) fun a' w' β' hG' => ?_
    rw [hto]
    exact hQ (rhoOf σ ρ1) a' w' _ (row_rho s1) (good_ren s2 hG')
  unfold loopRun at hds
  split at hds
  · rename_i st hex
    exact main .normal st 1 hex (ofOpt_ok hds) (.inr rfl) (by simp [Ex.to])
  · rename_i id' st hex
    split at hds
    · rename_i hid
      subst hid
      exact main (.exit id') st 0 hex (ofOpt_ok hds) (.inl rfl) (by simp [Ex.to])
    · cases hds
  · cases hds
  · cases hds
  · cases hds

theorem loop_rounds {X : Kx} {id : Nat} {b : Code} {step : List Int → List Int}
    (hr : ∀ ρ : Nat → Int, holdsAll τ.kin (row ρ τ.kin.length) → ∃ (next : List Int) (flag : Int), step (row ρ τ.kin.length) = next ++ [flag] ∧ holdsAll τ.kin next ∧ (flag = 0 ∨ flag = 1) ∧
      ∀ (alen : Nat → Nat) (β0 : Nat → Nat × Nat) (w0 : World) (dfr : List Deferred) (a : Act) (w : World) (β : Nat → Nat × Nat) (Q : Exit → Act → World → Prop), Good (X.env alen β0 w0 dfr) τ.slots τ.mem ρ β a w →
        (∀ ρ' a' w' β', row ρ' τ.kin.length = next → Good (X.env alen β0 w0 dfr) τ.slots τ.mem ρ' β' a' w' → Q (if flag = 0 then .exit id else .normal) a' w') → b.wp X.P Q a w) :
    ∀ (n : Nat) (vs vf : List Int), iterL step τ.kin.length n vs = some vf → ∀ ρ : Nat → Int, row ρ τ.kin.length = vs → holdsAll τ.kin vs →
      holdsAll τ.kin vf ∧ ∀ (alen : Nat → Nat) (β0 : Nat → Nat × Nat) (w0 : World) (dfr : List Deferred) (a : Act) (w : World) (β : Nat → Nat × Nat) (Q : Exit → Act → World → Prop), Good (X.env alen β0 w0 dfr) τ.slots τ.mem ρ β a w →
        (∀ ρ' a' w' β', row ρ' τ.kin.length = vf → Good (X.env alen β0 w0 dfr) τ.slots τ.mem ρ' β' a' w' → Q (.exit id) a' w') → Code.rounds X.P b Q n a w := by
  intro n
  induction n with
  | zero => intro vs vf h; simp [iterL] at h
  | succ n ih =>
    intro vs vf h ρ hρ hvs
    subst hρ
    obtain ⟨next, flag, h1, h2, h3, h4⟩ := hr ρ hvs
    have hlen : next.length = τ.kin.length := holdsAll_length h2
    have hget : (next ++ [flag]).getD τ.kin.length 0 = flag := by simp [← hlen]
    have htake : (next ++ [flag]).take τ.kin.length = next := by simp [← hlen]
    simp only [iterL, h1, hget, htake] at h
    rcases h3 with rfl | rfl
    · rw [if_pos rfl] at h
      cases h
      refine ⟨h2, fun alen β0 w0 dfr a w β Q hG hQ => ?_⟩
      rw [rounds_succ]
      refine h4 alen β0 w0 dfr a w β _ hG fun ρ' a' w' β' hρ' hG' => ?_
      simp only [if_true]
      exact hQ ρ' a' w' β' hρ' hG'
    · rw [if_neg (by decide)] at h
      have key := fun ρ' (hρ' : row ρ' τ.kin.length = next) => ih next vf h ρ' hρ' h2
      obtain ⟨ρx, hρx⟩ : ∃ ρ' : Nat → Int, row ρ' τ.kin.length = next := ⟨fun i => next.getD i 0, by
        apply List.ext_getElem
        · simp [row, hlen]
        · intro i g1 g2; simp [row, g2]⟩
      refine ⟨(key ρx hρx).1, fun alen β0 w0 dfr a w β Q hG hQ => ?_⟩
      rw [rounds_succ]
      refine h4 alen β0 w0 dfr a w β _ hG fun ρ' a' w' β' hρ' hG' => ?_
      exact (key ρ' hρ').2 alen β0 w0 dfr a' w' β' Q hG' hQ

/-- What the kernel reckons of a function with one loop: k rounds ahead, then the loop in its form, then the rest. -/
structure LoopChk (P : Program) (tbl : List (Nat × Summ)) (s : Summ) (fuel k : Nat) (fn : Func) (τ : Tmpl) (T1 T2 T3 : CT) : Prop where
  name : (fn.name == "runtime.NumGoroutine") = false
  mix : P.follows .mixedOrders = true
  init : initB s fn.ntmps = true
  wr : s.wr = none
  res : fn.results.toList.length ≤ 2
  form : tmplB (kxOf P tbl s fn.ntmps) τ = true
  code : ∃ c x id b y, fn.body = some c ∧ findLoop (flat c) = some (x, id, b, y) ∧
    treeOf (preRun (kxOf P tbl s fn.ntmps) fuel (x ++ List.replicate k b) τ s) 24 [] = some T1 ∧
    treeOf (loopRun (kxOf P tbl s fn.ntmps) fuel b τ id) 24 [] = some T2 ∧
    treeOf (postRun (kxOf P tbl s fn.ntmps) fuel y τ s fn.results.toList) 24 [] = some T3
  c1 : cover tbl s.inKinds T1 [] [] = true
  c2 : cover tbl τ.kin T2 [] [] = true
  c3 : cover tbl τ.kin T3 [] [] = true

def loopChk (P : Program) (tbl : List (Nat × Summ)) (s : Summ) (fuel k : Nat) (fn : Func) (τ : Tmpl) (T1 T2 T3 : CT) : Bool :=
  (fn.name != "runtime.NumGoroutine") && P.follows .mixedOrders && initB s fn.ntmps && s.wr.isNone && decide (fn.results.toList.length ≤ 2) && tmplB (kxOf P tbl s fn.ntmps) τ &&
    (match fn.body with
    | none => false
    | some c => match findLoop (flat c) with
      | none => false
      | some (x, id, b, y) => decide (treeOf (preRun (kxOf P tbl s fn.ntmps) fuel (x ++ List.replicate k b) τ s) 24 [] = some T1) &&
        decide (treeOf (loopRun (kxOf P tbl s fn.ntmps) fuel b τ id) 24 [] = some T2) && decide (treeOf (postRun (kxOf P tbl s fn.ntmps) fuel y τ s fn.results.toList) 24 [] = some T3)) &&
    cover tbl s.inKinds T1 [] [] && cover tbl τ.kin T2 [] [] && cover tbl τ.kin T3 [] []

theorem loopChk_ok {tbl : List (Nat × Summ)} {s : Summ} {fuel k : Nat} {fn : Func} {T1 T2 T3 : CT} (h : loopChk P tbl s fuel k fn τ T1 T2 T3 = true) : LoopChk P tbl s fuel k fn τ T1 T2 T3 := by
  simp only [loopChk, Bool.and_eq_true, decide_eq_true_eq] at h
  obtain ⟨⟨⟨⟨⟨⟨⟨⟨⟨h1, h2⟩, h3⟩, h4⟩, h5⟩, h6⟩, h7⟩, h8⟩, h9⟩, h10⟩ := h
  refine ⟨by simpa using h1, h2, h3, by simpa using h4, h5, h6, ?_, h8, h9, h10⟩
  split at h7
  · cases h7
  · rename_i c hc
    split at h7
    · cases h7
    · rename_i x id b y hf
      simp only [Bool.and_eq_true, decide_eq_true_eq] at h7
      exact ⟨c, x, id, b, y, hc, hf, h7.1.1, h7.1.2, h7.2⟩

theorem summ_loop {tbl : List (Nat × Summ)} {s : Summ} {f fuel k : Nat} {fn : Func} {F preF step postF : List Int → List Int} (T1 T2 T3 : CT) (hf : P.funcs[f]? = some fn)
    (htbl : ∀ f s, findS tbl f = some s → SummOK P f s (Φ f)) (hchk : loopChk P tbl s fuel k fn τ T1 T2 T3 = true)
    (m1 : ∀ l ∈ T1.leaves, ∀ ρ : Nat → Int, holdsAll s.inKinds (row ρ s.inKinds.length) → SatTr Φ ρ l.tr → AsrOK ρ l.asr → preF (row ρ s.inKinds.length) ++ [1] = l.outs.map (E.den ρ))
    (m2 : ∀ l ∈ T2.leaves, ∀ ρ : Nat → Int, holdsAll τ.kin (row ρ τ.kin.length) → SatTr Φ ρ l.tr → AsrOK ρ l.asr → step (row ρ τ.kin.length) = l.outs.map (E.den ρ))
    (m3 : ∀ l ∈ T3.leaves, ∀ ρ : Nat → Int, holdsAll τ.kin (row ρ τ.kin.length) → SatTr Φ ρ l.tr → AsrOK ρ l.asr → postF (row ρ τ.kin.length) = l.outs.map (E.den ρ))
    (hF : ∀ ins, holdsAll s.inKinds ins → ∃ n vf, iterL step τ.kin.length n (preF ins) = some vf ∧ F ins = postF vf) : SummOK P f s F := by
  obtain ⟨hname, hmix, hinit, hwr, hres, hτ, ⟨c, x, id, b, y, hc, hfl, t1, t2, t3⟩, c1, c2, c3⟩ := loopChk_ok hchk
  have asrow : ∀ {ks : List K} {vs : List Int}, holdsAll ks vs → row (fun i => vs.getD i 0) ks.length = vs := fun {ks vs} h => by
    have := holdsAll_length h
    apply List.ext_getElem
    · simp [row, this]
    · intro i g1 g2; simp [row, g2]
  refine summ_core (tbl := tbl) hf hname hc hinit fn.results.toList (by simp) hres fun al hal ins hins => ?_
  have hal' : al = none := by simpa [alsOf, hwr] using hal
  subst hal'
  obtain ⟨n, vf, hit, hFe⟩ := hF ins hins
  -- ahead of the loop
  have hk0 : ∀ (i : Nat) k, s.inKinds[i]? = some k → k.holds (ins.getD i 0) := fun i k hi => holdsAll_get hins i k hi
  obtain ⟨l1, hl1, ρ1, q1, q2, q3⟩ := cover_ok htbl T1 [] [] (fun j => ins.getD j 0) c1 hk0 (fun x k i hx => by simp at hx) (fun e b hx => by simp at hx)
  obtain ⟨ds1, hds1⟩ := treeOf_run t1 l1 hl1
  have hrow1 : row ρ1 s.inKinds.length = ins := by
    rw [← asrow hins]
    exact List.map_congr_left fun j hj => q1 j (by simpa using hj)
  have e1 := m1 l1 hl1 ρ1 (by rw [hrow1]; exact hins) q2 q3
  rw [hrow1] at e1
  obtain ⟨st1, hex1, himg1⟩ : ∃ st1, execList (kxOf P tbl s fn.ntmps) fuel (x ++ List.replicate k b) (initSt s none ds1) = .ok (.normal, st1) ∧ imgLeaf s.args.length τ s.inKinds st1 1 = some l1 := by
    unfold preRun at hds1
    split at hds1
    · rename_i st1 h1; exact ⟨st1, h1, ofOpt_ok hds1⟩
    · cases hds1
    · cases hds1
    · cases hds1
  obtain ⟨σ1, s1, s2, s3, hle1⟩ := imgLeaf_inv himg1
  subst hle1
  have hF1 : Fits Φ ρ1 s.inKinds st1 := ⟨q2, fun e b hb => q3 e b hb, fun i k hi => by rw [q1 i (List.getElem?_eq_some_iff.mp hi).1]; exact hk0 i k hi⟩
  obtain ⟨_, wp1⟩ := execList_ok (X := kxOf P tbl s fn.ntmps) (ρ := ρ1) hmix htbl fuel _ _ _ _ hex1 (start_stOK hinit ds1) hF1
  have hpre : preF ins = σ1.map (E.den ρ1) := by
    have : preF ins ++ [1] = σ1.map (E.den ρ1) ++ [1] := by rw [e1]; simp [E.den]
    exact List.append_cancel_right this
  have hvs : holdsAll τ.kin (σ1.map (E.den ρ1)) := kindsMatch_holds hF1.kin hF1.tr s3
  -- the loop
  rw [hpre] at hit
  obtain ⟨hvf, wp2⟩ := loop_rounds (X := kxOf P tbl s fn.ntmps) (τ := τ) (id := id) (b := b) (step := step)
    (fun ρ hρ => loop_round (X := kxOf P tbl s fn.ntmps) (fuel := fuel) hmix htbl hτ t2 c2 m2 ρ hρ) n _ vf hit (rhoOf σ1 ρ1) (row_rho s1) hvs
  -- behind it
  have hkf : ∀ (i : Nat) k, τ.kin[i]? = some k → k.holds (vf.getD i 0) := fun i k hi => holdsAll_get hvf i k hi
  obtain ⟨l3, hl3, ρ3, p1, p2, p3⟩ := cover_ok htbl T3 [] [] (fun j => vf.getD j 0) c3 hkf (fun x k i hx => by simp at hx) (fun e b hx => by simp at hx)
  obtain ⟨ds3, hds3⟩ := treeOf_run t3 l3 hl3
  have hrow3 : row ρ3 τ.kin.length = vf := by
    rw [← asrow hvf]
    exact List.map_congr_left fun j hj => p1 j (by simpa using hj)
  have e3 := m3 l3 hl3 ρ3 (by rw [hrow3]; exact hvf) p2 p3
  rw [hrow3] at e3
  obtain ⟨ex3, st3, hex3, hend, hleaf⟩ : ∃ ex3 st3, execList { kxOf P tbl s fn.ntmps with kin := τ.kin } fuel y (τ.st ds3) = .ok (ex3, st3) ∧ (ex3 = .ret ∨ ex3 = .normal) ∧ leafOf P s none τ.kin fn.results.toList st3 = some l3 := by
    unfold postRun at hds3
    split at hds3
    · rename_i ex st h1
      split at hds3
      · rename_i he; exact ⟨ex, st, h1, he, ofOpt_ok hds3⟩
      · cases hds3
    · cases hds3
    · cases hds3
  have hleaf' := hleaf
  obtain ⟨svs, ea, eb, _, _, _, _, hle3⟩ := leafOf_inv hleaf'
  have hF3 : Fits Φ ρ3 τ.kin st3 := ⟨fun x k i hx => p2 x k i (by rw [hle3]; exact hx), fun e b hb => p3 e b (by rw [hle3]; exact hb), fun i k hi => by rw [p1 i (List.getElem?_eq_some_iff.mp hi).1]; exact hkf i k hi⟩
  obtain ⟨_, wp3⟩ := execList_ok (X := { kxOf P tbl s fn.ntmps with kin := τ.kin }) (ρ := ρ3) hmix htbl fuel _ _ _ _ hex3 (tmpl_stOK hτ _ ds3) hF3
  refine ⟨ex3, st3, τ.kin, ρ1, ρ3, l3, q1, hend, hleaf, fun i k hk => kdOf_ok hF3 hk, by rw [hFe, e3], fun alen β0 w0 a w β Q hG hQ => ?_⟩
  refine flat_wp c ?_
  rw [findLoop_eq hfl]
  refine wpList_join x _ ?_
  -- x, then k rounds: split what was carried out in one
  have h1 := wp1 alen β0 w0 [] a w β (Exit.then (Code.rounds P b (Exit.inBlock id (Exit.then (wpList' P y Q) Q)) n) (fun _ _ _ => False)) hG fun a' w' β' hG' => by
    refine wp2 alen β0 w0 [] a' w' _ _ (good_ren s2 hG') fun ρ' a2 w2 β2 hρ' hG2 => ?_
    simp only [Exit.inBlock, if_true, Exit.then]
    refine wp3 alen β0 w0 [] a2 w2 β2 Q (good_low hτ (fun j hj => ?_) hG2) hQ
    have : (row ρ' τ.kin.length)[j]? = (row ρ3 τ.kin.length)[j]? := by rw [hρ', hrow3]
    simpa [row, hj] using this.symm
  have h2 := wpList_split x _ h1
  refine wpList_mono (fun e a' w' he => ?_) x h2
  cases e <;> first
    | (refine wp_block (wp_loop_rounds (k + n) (rounds_peel k ?_))
       refine wpList_mono (fun e2 a2 w2 he2 => ?_) _ he
       cases e2 <;> first | exact he2 | exact he2.elim)
    | exact he.elim

end
end Go.Sym
