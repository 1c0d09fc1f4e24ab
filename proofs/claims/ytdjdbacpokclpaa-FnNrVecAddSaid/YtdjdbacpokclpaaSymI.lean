/- Symbolic runs of straight Go code over the model: states, regions, code. -/
import Derived.Test.YtdjdbacpokclpaaSymH
namespace Go.Sym

structure St where
  nv : Nat
  nr : Nat
  slots : List (Nat × SV)
  mem : List (Nat × List S)
  trace : List (Nat × K × I)
  asr : List (E × Bool)
  dec : List Bool

inductive R (α : Type) where
  | ok (x : α)
  | need (e : E)
  | fail (code : Nat) (at_ : Nat)

def tlook : List (Nat × K × I) → Nat → Option K
  | [], _ => none
  | (x, k, _) :: l, t => if x == t then some k else tlook l t

def asrLook : List (E × Bool) → E → Option Bool
  | [], _ => none
  | (x, b) :: l, e => if x = e then some b else asrLook l e

def St.decide (st : St) (e : E) : Option Bool :=
  match e with
  | .c n => some (!(n == 0))
  | .v _ => asrLook st.asr e

def kdOf (kin : List K) (st : St) (i : Nat) : Option K := if i < kin.length then kin[i]? else tlook st.trace i

def refsOf (slots : List (Nat × SV)) (x : Operand) : List Nat := match opv slots x with | some sv => sv.refs | none => []

def touches (slots : List (Nat × SV)) : Op → List Nat
  | .load _ x => refsOf slots x
  | .store _ x _ => refsOf slots x
  | .call c => c.args.toList.flatMap (refsOf slots)
  | _ => []

def St.view (kin : List K) (st : St) (tch : List Nat) : View :=
  { v := opv st.slots, rd := fun r => if tch.contains r then alook st.mem r else none, kd := kdOf kin st, dec := st.decide, nv := st.nv, nr := st.nr }

def addIns : Nat → List (K × I) → List (Nat × K × I) → List (Nat × K × I)
  | _, [], tr => tr
  | n, (k, i) :: l, tr => addIns (n + 1) l ((n, k, i) :: tr)

def opTmps (o : Oper) : List Nat := o.op.operands.toList.filterMap fun | .tmp t => some t | _ => none

def guardSlot (ops : Array Oper) (o : Oper) : Option Nat := match o.guard with | some (j, _) => (ops[j]?).bind (·.dst) | none => none

def usesOf (ops : Array Oper) (o : Oper) : List Nat := opTmps o ++ (guardSlot ops o).toList

/-- Is the operation wanted: the answer; a question that is open; or what cannot be told. -/
def wantedB (ops : Array Oper) (st : St) (o : Oper) : R Bool :=
  match o.guard with
  | none => .ok true
  | some (_, want) => match guardSlot ops o with
    | some t => match alook st.slots t with
      | some (.s (.bool e)) => match st.decide e with
        | some b => .ok (b == want)
        | none => .need e
      | some (.s .undef) => .ok false
      | _ => .fail 1 t
    | none => .fail 2 0

/-- An open question is answered by the next decision. -/
def St.take (st : St) (e : E) : R St :=
  match st.dec with
  | [] => .need e
  | b :: ds => .ok { st with asr := (e, b) :: st.asr, dec := ds }

structure Kx where
  cx : Cx
  P : Program
  kin : List K
  sz : Nat

def dstOK (sz : Nat) (o : Oper) : Bool := match o.dst with | some d => decide (d < sz) | none => true

def mkRec (ops : Array Oper) (st : St) (o : Oper) (wanted : Bool) (out : Out) : Rec :=
  { o := o, wanted := wanted, out := out, nr := st.nr, tch := if wanted then touches st.slots o.op else [], uses := usesOf ops o }

def St.put (st : St) (x : Rec) : St :=
  { st with nv := st.nv + x.out.ins.length, nr := st.nr + 1, slots := putSlot x st.slots, mem := putMem x st.mem, trace := addIns st.nv x.out.ins st.trace }

def stepOne (X : Kx) (ops : Array Oper) (st : St) (o : Oper) (wanted : Bool) : R (St × Rec) :=
  if dstOK X.sz o then
    if wanted then
      match absOp X.cx X.P (st.view X.kin (touches st.slots o.op)) o.op with
      | some out => let x := mkRec ops st o true out; .ok (st.put x, x)
      | none => .fail 3 (o.dst.getD 0)
    else let x := mkRec ops st o false { sv := .s .undef }; .ok (st.put x, x)
  else .fail 4 (o.dst.getD 0)

def execOps (X : Kx) (ops : Array Oper) : List Oper → St → List Rec → R (St × List Rec)
  | [], st, acc => .ok (st, acc)
  | o :: os, st, acc =>
    match wantedB ops st o with
    | .ok wanted => match stepOne X ops st o wanted with
      | .ok (st', x) => execOps X ops os st' (x :: acc)
      | .need e => .need e
      | .fail a b => .fail a b
    | .need e => match st.take e with
      | .ok st1 => match wantedB ops st1 o with
        | .ok wanted => match stepOne X ops st1 o wanted with
          | .ok (st', x) => execOps X ops os st' (x :: acc)
          | .need e => .need e
          | .fail a b => .fail a b
        | .need e => .need e
        | .fail a b => .fail a b
      | .need e => .need e
      | .fail a b => .fail a b
    | .fail a b => .fail a b

def execRegion (X : Kx) (ops : Array Oper) (draw : Bool) (st : St) : R St :=
  match execOps X ops ops.toList st [] with
  | .ok (st', acc) => if draw then (if orderOK acc.reverse then .ok st' else .fail 5 0) else .ok st'
  | .need e => .need e
  | .fail a b => .fail a b

/-! ### what a state says of the numbers -/
structure Fits (Φ : Nat → List Int → List Int) (ρ : Nat → Int) (kin : List K) (st : St) : Prop where
  tr : ∀ x k i, (x, k, i) ∈ st.trace → ρ x = i.val Φ ρ ∧ k.holds (ρ x)
  asr : ∀ e b, (e, b) ∈ st.asr → (!(e.den ρ == 0)) = b
  kin : ∀ (i : Nat) (k : K), kin[i]? = some k → k.holds (ρ i)

structure St.Le (st st' : St) : Prop where
  tr : ∀ x, x ∈ st.trace → x ∈ st'.trace
  asr : ∀ x, x ∈ st.asr → x ∈ st'.asr
  nr : st.nr ≤ st'.nr

theorem St.Le.refl (st : St) : st.Le st := ⟨fun _ h => h, fun _ h => h, Nat.le_refl _⟩
theorem St.Le.trans {a b c : St} (h : a.Le b) (k : b.Le c) : a.Le c := ⟨fun x hx => k.tr x (h.tr x hx), fun x hx => k.asr x (h.asr x hx), Nat.le_trans h.nr k.nr⟩

section
variable {P : Program} {Φ : Nat → List Int → List Int} {ρ : Nat → Int} {kin : List K} {st st' : St}

theorem Fits.of_le (h : Fits Φ ρ kin st') (hle : st.Le st') : Fits Φ ρ kin st := ⟨fun x k i hx => h.tr x k i (hle.tr _ hx), fun e b hx => h.asr e b (hle.asr _ hx), h.kin⟩

theorem tlook_mem : ∀ {l : List (Nat × K × I)} {t : Nat} {k : K}, tlook l t = some k → ∃ i, (t, k, i) ∈ l
  | (x, k', i) :: l, t, k, h => by
    simp only [tlook] at h
    split at h
    · rename_i hx
      cases h
      have : x = t := by simpa using hx
      subst this
      exact ⟨i, by simp⟩
    · obtain ⟨i', hi'⟩ := tlook_mem h
      exact ⟨i', by simp [hi']⟩

theorem asrLook_mem : ∀ {l : List (E × Bool)} {e : E} {b : Bool}, asrLook l e = some b → (e, b) ∈ l
  | (x, b') :: l, e, b, h => by
    simp only [asrLook] at h
    split at h
    · rename_i hx
      cases h
      subst hx
      simp
    · simp [asrLook_mem h]

theorem decide_ok (h : Fits Φ ρ kin st) {e : E} {b : Bool} (hd : st.decide e = some b) : (!(e.den ρ == 0)) = b := by
  cases e with
  | c n => simpa [St.decide, E.den] using hd
  | v i => exact h.asr _ _ (asrLook_mem hd)

theorem kdOf_ok (h : Fits Φ ρ kin st) {i : Nat} {k : K} (hk : kdOf kin st i = some k) : k.holds (ρ i) := by
  unfold kdOf at hk
  split at hk
  · exact h.kin i k hk
  · obtain ⟨i', hi'⟩ := tlook_mem hk
    exact (h.tr _ _ _ hi').2

theorem addIns_mem : ∀ (l : List (K × I)) (n : Nat) (tr : List (Nat × K × I)), (∀ x, x ∈ tr → x ∈ addIns n l tr) ∧ ∀ (j : Nat) k i, l[j]? = some (k, i) → (n + j, k, i) ∈ addIns n l tr
  | [], n, tr => ⟨fun _ h => h, fun j k i h => by simp at h⟩
  | (k0, i0) :: l, n, tr => by
    obtain ⟨h1, h2⟩ := addIns_mem l (n + 1) ((n, k0, i0) :: tr)
    refine ⟨fun x hx => h1 x (by simp [hx]), fun j k i h => ?_⟩
    cases j with
    | zero => simp at h; obtain ⟨rfl, rfl⟩ := h; exact h1 _ (by simp)
    | succ j =>
      have := h2 j k i (by simpa using h)
      rwa [show n + 1 + j = n + (j + 1) by omega] at this

theorem put_le (st : St) (x : Rec) : st.Le (st.put x) := ⟨(addIns_mem x.out.ins st.nv st.trace).1, fun _ h => h, by simp [St.put]⟩

theorem put_ins {x : Rec} (h : Fits Φ ρ kin (st.put x)) : InsOK Φ ρ st.nv x.out.ins := fun j k i hj =>
  h.tr _ _ _ ((addIns_mem x.out.ins st.nv st.trace).2 j k i hj)

theorem take_ok {e : E} {st1 : St} (h : st.take e = .ok st1) : st.Le st1 ∧ st1.slots = st.slots ∧ st1.mem = st.mem ∧ st1.nr = st.nr ∧ st1.nv = st.nv ∧ st1.trace = st.trace := by
  unfold St.take at h
  split at h
  · cases h
  · cases h
    exact ⟨⟨fun _ h => h, fun _ h => by simp [h], Nat.le_refl _⟩, rfl, rfl, rfl, rfl, rfl⟩

/-- The regions that are to come are not there yet. -/
def NR (cx : Cx) (st : St) : Prop := cx.narg ≤ st.nr ∧ ∀ r, st.nr ≤ r → alook st.mem r = none

/-! ### one operation -/
/-- What a guard's slot holds tells whether the operation is wanted. -/
def GuardOK (ρ : Nat → Int) (sv : SV) (want wanted : Bool) : Prop :=
  match sv with
  | .s (.bool e) => wanted = ((!(e.den ρ == 0)) == want)
  | .s .undef => wanted = false
  | _ => False

def WantedOK (ρ : Nat → Int) (ops : Array Oper) (slots : List (Nat × SV)) (o : Oper) (wanted : Bool) : Prop :=
  match o.guard with
  | none => wanted = true
  | some (_, want) => ∃ t sv, guardSlot ops o = some t ∧ alook slots t = some sv ∧ GuardOK ρ sv want wanted

/-- What was reckoned of one operation, with slots and rows as they stood. -/
structure RecOK (Φ : Nat → List Int → List Int) (ρ : Nat → Int) (cx : Cx) (P : Program) (sz : Nat) (ops : Array Oper) (slots : List (Nat × SV)) (mem : List (Nat × List S)) (x : Rec) : Prop where
  uses : x.uses = usesOf ops x.o
  dst : ∀ d, x.o.dst = some d → d < sz
  wr : ∀ r o cs, x.out.wr = some (r, o, cs) → r ∈ x.tch
  wanted : WantedOK ρ ops slots x.o x.wanted
  yes : x.wanted = true → ∃ V : View, V.v = opv slots ∧ (∀ r cs, V.rd r = some cs → r ∈ x.tch ∧ alook mem r = some cs) ∧ (∀ i k, V.kd i = some k → k.holds (ρ i)) ∧
    (∀ e b, V.dec e = some b → (!(e.den ρ == 0)) = b) ∧ V.nr = x.nr ∧ InsOK Φ ρ V.nv x.out.ins ∧ absOp cx P V x.o.op = some x.out
  no : x.wanted = false → x.out = { sv := .s .undef }
  nr : cx.narg ≤ x.nr

theorem wanted_run {ops : Array Oper} {o : Oper} {slots : List (Nat × SV)} {E : Env} {mem : List (Nat × List S)} {β : Nat → Nat × Nat} {a : Act} {w : World} (hG : Good E slots mem ρ β a w) {wanted : Bool} (hsz : ∀ t sv, alook slots t = some sv → t < E.sz)
    (h : WantedOK ρ ops slots o wanted) : Region.wanted o (yielded ops a.tmps) = wanted := by
  unfold Region.wanted
  unfold WantedOK at h
  cases hg : o.guard with
  | none => rw [hg] at h; exact h.symm
  | some g =>
    obtain ⟨j, want⟩ := g
    rw [hg] at h
    obtain ⟨t, sv, h1, h2, h3⟩ := h
    simp only [guardSlot, hg] at h1
    obtain ⟨h4, _⟩ := hG.sok t _ h2
    have hlt := hsz t _ h2
    rw [← hG.size] at hlt
    have e0 : a.tmps[t]? = some (sv.den ρ β) := by
      rw [Array.getElem?_eq_getElem hlt]
      simpa [hlt] using h4
    simp only [yielded, h1, Option.bind_some, e0]
    unfold GuardOK at h3
    split at h3
    · rw [h3]
      simp only [SV.den, S.den]
      generalize (!(Sym.E.den ρ _ == 0)) = bb
      cases bb <;> cases want <;> rfl
    · rw [h3]
      rfl
    · exact h3.elim

end
end Go.Sym
