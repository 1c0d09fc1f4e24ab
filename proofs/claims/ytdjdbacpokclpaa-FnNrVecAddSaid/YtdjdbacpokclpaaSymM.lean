/- Symbolic runs of straight Go code over the model: two states made one. -/
import Derived.Test.YtdjdbacpokclpaaSymJ
namespace Go.Sym

inductive Ex where
  | normal
  | exit (id : Nat)
  | ret
  deriving DecidableEq

def Ex.to : Ex → Exit
  | .normal => .normal
  | .exit id => .exit id
  | .ret => .ret

def mkeys {α : Type} : List (Nat × α) → List Nat → List Nat
  | [], seen => seen
  | (k, _) :: l, seen => if seen.contains k then mkeys l seen else mkeys l (k :: seen)

def mergeS (e : E) (n : Nat) (a b : S) : Option (S × List (K × I)) :=
  if a = b then some (a, []) else
  match a, b with
  | .int k x, .int k' y => if k = k' then some (.int k (.v n), [(.i k, .pick e x y)]) else none
  | .bool x, .bool y => some (.bool (.v n), [(.bool, .pick e x y)])
  | _, _ => none

def mergeRow (e : E) : Nat → List S → List S → Option (List S × List (K × I))
  | _, [], [] => some ([], [])
  | n, a :: as, b :: bs => match mergeS e n a b with
    | some (s, i) => match mergeRow e (n + i.length) as bs with
      | some (ss, is) => some (s :: ss, i ++ is)
      | none => none
    | none => none
  | _, _, _ => none

def S.hard : S → Bool
  | .slc .. | .nils => true
  | _ => false

def mergeSlots (e : E) (sx sy : List (Nat × SV)) : List Nat → Nat → Option (List (Nat × SV) × List (K × I))
  | [], _ => some ([], [])
  | k :: ks, n => match alook sx k, alook sy k with
    | some (.s a), some (.s b) => match mergeS e n a b with
      | some (s, i) => (mergeSlots e sx sy ks (n + i.length)).map fun (l, is) => ((k, .s s) :: l, i ++ is)
      | none => if a.hard && b.hard then none else mergeSlots e sx sy ks n
    | some (.agg a), some (.agg b) => match mergeRow e n a b with
      | some (s, i) => (mergeSlots e sx sy ks (n + i.length)).map fun (l, is) => ((k, .agg s) :: l, i ++ is)
      | none => mergeSlots e sx sy ks n
    | some a, some b => if a = b then (mergeSlots e sx sy ks n).map fun (l, is) => ((k, a) :: l, is) else mergeSlots e sx sy ks n
    | _, _ => mergeSlots e sx sy ks n

def mergeMem (e : E) (mx my : List (Nat × List S)) : List Nat → Nat → Option (List (Nat × List S) × List (K × I))
  | [], _ => some ([], [])
  | k :: ks, n => match alook mx k, alook my k with
    | some a, some b => match mergeRow e n a b with
      | some (s, i) => (mergeMem e mx my ks (n + i.length)).map fun (l, is) => ((k, s) :: l, i ++ is)
      | none => none
    | _, _ => mergeMem e mx my ks n

def pkOf (tr : List (Nat × K × I)) (e : E) (n : Nat) : Option (E × E) :=
  match tr.find? fun x => x.1 == n with
  | some (_, _, .pick e' x y) => if e' = e then some (x, y) else none
  | _ => none

/-- The one stands for a where the question is answered yes, and for b where no. -/
def agreeS (pk : Nat → Option (E × E)) (a b s : S) : Bool :=
  (s == a && s == b) || match s, a, b with
    | .int k (.v n), .int k1 x, .int k2 y => k == k1 && k == k2 && pk n == some (x, y)
    | .bool (.v n), .bool x, .bool y => pk n == some (x, y)
    | _, _, _ => false

def agreeRow (pk : Nat → Option (E × E)) : List S → List S → List S → Bool
  | [], [], [] => true
  | a :: as, b :: bs, s :: ss => agreeS pk a b s && agreeRow pk as bs ss
  | _, _, _ => false

def agreeSV (pk : Nat → Option (E × E)) (a b s : SV) : Bool :=
  match a, b, s with
  | .s a, .s b, .s s => agreeS pk a b s
  | .agg a, .agg b, .agg s => agreeRow pk a b s
  | .tup a, .tup b, .tup s => a == b && s == a
  | _, _, _ => false

def mergeOK (sx sy sm : St) (e : E) : Bool :=
  let pk := pkOf sm.trace e
  (sm.slots.all fun (t, sv) => (match alook sx.slots t, alook sy.slots t with | some a, some b => agreeSV pk a b sv | _, _ => false) && sv.refs.all fun r => (alook sm.mem r).isSome) &&
  (sm.mem.all fun (r, cs) => (match alook sx.mem r, alook sy.mem r with | some a, some b => agreeRow pk a b cs | _, _ => false) && cs.all fun s => match s.ref with | some q => (alook sm.mem q).isSome | none => true)

def mergeSt (st sx sy : St) (e : E) : Option St :=
  if sx.asr = (e, true) :: st.asr ∧ sy.asr = (e, false) :: st.asr then
    match mergeSlots e sx.slots sy.slots (mkeys st.slots (mkeys sx.slots [])) sy.nv with
    | none => none
    | some (sl, i1) => match mergeMem e sx.mem sy.mem (mkeys sx.mem []) (sy.nv + i1.length) with
      | none => none
      | some (ml, i2) =>
        let sm : St := { nv := sy.nv + (i1 ++ i2).length, nr := sy.nr, slots := sl, mem := ml, trace := addIns sy.nv (i1 ++ i2) sy.trace, asr := st.asr, dec := st.dec }
        if mergeOK sx sy sm e then some sm else none
  else none

def stX (st : St) (e : E) : St := { st with asr := (e, true) :: st.asr, dec := [] }
def stY (st sx : St) (e : E) : St := { st with nv := sx.nv, nr := sx.nr, trace := sx.trace, asr := (e, false) :: st.asr, dec := [] }

def mergeTry (fx fy : St → R (Ex × St)) (st : St) (e : E) : Option St :=
  match fx (stX st e) with
  | .ok (.normal, sx) => match fy (stY st sx e) with
    | .ok (.normal, sy) => mergeSt st sx sy e
    | _ => none
  | _ => none

section
variable {P : Program} {Φ : Nat → List Int → List Int} {ρ : Nat → Int} {kin : List K} {Ev : Env} {β : Nat → Nat × Nat} {a : Act} {w : World}

theorem alook_mem {α : Type} : ∀ {l : List (Nat × α)} {t : Nat} {x : α}, alook l t = some x → (t, x) ∈ l
  | (k, y) :: l, t, x, h => by
    simp only [alook] at h
    split at h
    · rename_i hk
      cases h
      have : k = t := by simpa using hk
      subst this
      simp
    · simp [alook_mem h]

theorem good_sub {slots slots' : List (Nat × SV)} {mem mem' : List (Nat × List S)} (hG : Good Ev slots mem ρ β a w)
    (hs : ∀ t sv, alook slots' t = some sv → (∃ x, alook slots t = some x ∧ sv.den ρ β = x.den ρ β) ∧ ∀ r ∈ sv.refs, (alook mem' r).isSome = true)
    (hm : ∀ r cs, alook mem' r = some cs → (∃ as, alook mem r = some as ∧ cs.length = as.length ∧ ∀ (j : Nat) s, cs[j]? = some s → ∃ s', as[j]? = some s' ∧ s.den ρ β = s'.den ρ β) ∧ ∀ s ∈ cs, ∀ q, s.ref = some q → (alook mem' q).isSome = true) :
    Good Ev slots' mem' ρ β a w := by
  have hsome : ∀ r, (alook mem' r).isSome = true → (alook mem r).isSome = true := fun r hr => by
    obtain ⟨cs, hcs⟩ := Option.isSome_iff_exists.mp hr
    obtain ⟨⟨as, h1, _⟩, _⟩ := hm r cs hcs
    simp [h1]
  refine ⟨hG.size, hG.dfr, fun t sv ht => ?_, ⟨fun r cs hr j s hj => ?_, fun r cs hr hw j hj => ?_, fun r cs r' cs' hr hr' hne hw => ?_⟩, fun r cs hr s hs' q hq => (hm r cs hr).2 s hs' q hq, hG.keeps, fun r hr => hG.fresh r (hsome r hr), hG.args, fun r hr => hG.blk r (hsome r hr), fun r cs hn hr => ?_⟩
  · obtain ⟨⟨x, h1, h2⟩, h3⟩ := hs t sv ht
    exact ⟨by rw [h2]; exact (hG.sok t x h1).1, h3⟩
  · obtain ⟨⟨as, h1, h2, h3⟩, _⟩ := hm r cs hr
    obtain ⟨s', h4, h5⟩ := h3 j s hj
    rw [h5]
    exact hG.mok.cell r as h1 j s' h4
  · obtain ⟨⟨as, h1, h2, h3⟩, _⟩ := hm r cs hr
    exact hG.mok.free r as h1 hw j (by omega)
  · obtain ⟨⟨as, h1, h2, h3⟩, _⟩ := hm r cs hr
    obtain ⟨⟨as', h1', h2', h3'⟩, _⟩ := hm r' cs' hr'
    rw [h2, h2']
    exact hG.mok.apart r as r' as' h1 h1' hne hw
  · obtain ⟨⟨as, h1, h2, h3⟩, _⟩ := hm r cs hr
    rw [h2]
    exact hG.lens r as hn h1

/-- The picks are as the question is answered. -/
def PkOK (ρ : Nat → Int) (pk : Nat → Option (E × E)) (b : Bool) : Prop := ∀ n x y, pk n = some (x, y) → ρ n = (if b then x else y).den ρ

theorem agreeS_ok {pk : Nat → Option (E × E)} {b : Bool} (hp : PkOK ρ pk b) {x y s : S} (h : agreeS pk x y s = true) : s.den ρ β = (if b then x else y).den ρ β ∧ s.ref = (if b then x else y).ref := by
  simp only [agreeS, Bool.or_eq_true, Bool.and_eq_true, beq_iff_eq] at h
  rcases h with ⟨h1, h2⟩ | h
  · cases b
    · rw [h2]; exact ⟨rfl, rfl⟩
    · rw [h1]; exact ⟨rfl, rfl⟩
  · split at h
    · simp only [Bool.and_eq_true, beq_iff_eq] at h
      obtain ⟨⟨rfl, rfl⟩, h⟩ := h
      have := hp _ _ _ h
      cases b <;> simp [S.den, E.den, this, S.ref]
    · have := hp _ _ _ (by simpa using h)
      cases b <;> simp [S.den, E.den, this, S.ref]
    · cases h

theorem agreeRow_ok {pk : Nat → Option (E × E)} {b : Bool} (hp : PkOK ρ pk b) : ∀ {xs ys ss : List S}, agreeRow pk xs ys ss = true →
    ss.length = (if b then xs else ys).length ∧ (∀ (j : Nat) s, ss[j]? = some s → ∃ s', (if b then xs else ys)[j]? = some s' ∧ s.den ρ β = s'.den ρ β) ∧ ss.map (S.den ρ β) = (if b then xs else ys).map (S.den ρ β)
  | [], [], [], _ => by cases b <;> simp
  | x :: xs, y :: ys, s :: ss, h => by
    simp only [agreeRow, Bool.and_eq_true] at h
    obtain ⟨h1, h2⟩ := agreeS_ok (β := β) hp h.1
    obtain ⟨i1, i2, i3⟩ := agreeRow_ok hp h.2
    have e : (if b then x :: xs else y :: ys) = (if b then x else y) :: (if b then xs else ys) := by cases b <;> rfl
    rw [e]
    refine ⟨by simp [i1], fun j s' hj => ?_, by simp only [List.map_cons, h1, i3]⟩
    cases j with
    | zero => simp only [List.getElem?_cons_zero, Option.some.injEq] at hj ⊢; subst hj; exact ⟨_, rfl, h1⟩
    | succ j => simp only [List.getElem?_cons_succ] at hj ⊢; exact i2 j s' hj
  | [], [], _ :: _, h => by simp [agreeRow] at h
  | [], _ :: _, _, h => by simp [agreeRow] at h
  | _ :: _, [], _, h => by simp [agreeRow] at h
  | _ :: _, _ :: _, [], h => by simp [agreeRow] at h

theorem agreeSV_ok {pk : Nat → Option (E × E)} {b : Bool} (hp : PkOK ρ pk b) {x y s : SV} (h : agreeSV pk x y s = true) : s.den ρ β = (if b then x else y).den ρ β := by
  unfold agreeSV at h
  split at h
  · rename_i x y s
    have := (agreeS_ok (β := β) hp h).1
    cases b <;> exact this
  · rename_i x y s
    have := (agreeRow_ok (β := β) hp h).2.2
    cases b
    · have t2 : s.map (S.den ρ β) = y.map (S.den ρ β) := this
      simp only [SV.den, Bool.false_eq_true, if_false]
      rw [t2]
    · have t2 : s.map (S.den ρ β) = x.map (S.den ρ β) := this
      simp only [SV.den, if_true]
      rw [t2]
  · simp only [Bool.and_eq_true, beq_iff_eq] at h
    obtain ⟨rfl, rfl⟩ := h
    cases b <;> rfl
  · cases h

theorem mergeSt_ok {st sx sy sm : St} {e : E} (h : mergeSt st sx sy e = some sm) :
    sx.asr = (e, true) :: st.asr ∧ sy.asr = (e, false) :: st.asr ∧ sm.asr = st.asr ∧ sm.nr = sy.nr ∧ (∀ x, x ∈ sy.trace → x ∈ sm.trace) ∧ mergeOK sx sy sm e = true := by
  unfold mergeSt at h
  split at h
  case isFalse => cases h
  rename_i hq
  split at h
  · cases h
  · split at h
    · cases h
    · simp only at h
      split at h
      · rename_i hok
        cases h
        exact ⟨hq.1, hq.2, rfl, rfl, fun x hx => (addIns_mem _ _ _).1 x hx, hok⟩
      · cases h

theorem pkOf_ok {sm : St} (hF : Fits Φ ρ kin sm) {e : E} {b : Bool} (hb : (!(e.den ρ == 0)) = b) : PkOK ρ (pkOf sm.trace e) b := by
  intro n x y h
  unfold pkOf at h
  split at h
  · rename_i m k e' x' y' hf
    split at h
    · rename_i he
      cases h
      subst he
      have hm : m = n := by simpa using List.find?_some hf
      subst hm
      have := (hF.tr _ _ _ (List.mem_of_find?_eq_some hf)).1
      rw [this]
      simp only [I.val]
      cases b with
      | true =>
        have : ¬ (e'.den ρ == 0) = true := by simpa using hb
        rw [if_neg this]; rfl
      | false =>
        have : (e'.den ρ == 0) = true := by simpa using hb
        rw [if_pos this]; rfl
    · cases h
  · cases h

/-- What the one state says holds of the other, whichever way was gone. -/
theorem merge_good {sx sy sm : St} {e : E} (h : mergeOK sx sy sm e = true) (hF : Fits Φ ρ kin sm) {b : Bool} (hb : (!(e.den ρ == 0)) = b) {s1 : St} (h1 : s1 = if b then sx else sy)
    (hG : Good Ev s1.slots s1.mem ρ β a w) : Good Ev sm.slots sm.mem ρ β a w := by
  have hp := pkOf_ok hF hb
  simp only [mergeOK, Bool.and_eq_true, List.all_eq_true] at h
  obtain ⟨k1, k2⟩ := h
  subst h1
  refine good_sub hG (fun t sv ht => ?_) (fun r cs hr => ?_)
  · obtain ⟨k3, k4⟩ := k1 _ (alook_mem ht)
    refine ⟨?_, k4⟩
    simp only at k3
    split at k3
    · rename_i x y hx hy
      have := agreeSV_ok (β := β) hp k3
      cases b
      · exact ⟨y, hy, this⟩
      · exact ⟨x, hx, this⟩
    · cases k3
  · obtain ⟨k3, k4⟩ := k2 _ (alook_mem hr)
    refine ⟨?_, fun s hs q hq => ?_⟩
    · simp only at k3
      split at k3
      · rename_i x y hx hy
        obtain ⟨i1, i2, _⟩ := agreeRow_ok (β := β) hp k3
        cases b
        · exact ⟨y, hy, i1, i2⟩
        · exact ⟨x, hx, i1, i2⟩
      · cases k3
    · have := k4 s hs
      simp only [hq] at this
      exact this

end
end Go.Sym
