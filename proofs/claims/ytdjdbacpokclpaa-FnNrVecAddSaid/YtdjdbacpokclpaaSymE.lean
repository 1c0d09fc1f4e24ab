/- Symbolic runs of straight Go code over the model: a call by its summary; all operations in one theorem. -/
import Derived.Test.YtdjdbacpokclpaaSymD
namespace Go.Sym
section
variable {P : Program} {cx : Cx} {Φ : Nat → List Int → List Int} {ρ : Nat → Int} {β : Nat → Nat × Nat} {V : View} {o : Oper} {a : Act} {w : World} {out : Out}

def placeOf (β : Nat → Nat × Nat) (x : List E × Option (Nat × Nat)) : Option (Nat × Nat × Nat) := x.2.map fun p => ((β p.1).1, (β p.1).2 + p.2, x.1.length)

/-- An argument stands for an actual one. -/
structure ArgFor (V : View) (ρ : Nat → Int) (β : Nat → Nat × Nat) (w : World) (k : AK) (x : List E × Option (Nat × Nat)) (v : Value) (y : AV) : Prop where
  ok : y.ok w k
  val : v = y.val k
  ints : y.ints = x.1.map (E.den ρ)
  place : y.place = placeOf β x
  inside : ∀ r o, x.2 = some (r, o) → ∃ cs, V.rd r = some cs ∧ o + x.1.length ≤ cs.length
  len : ∀ n, k = .ptr n → x.1.length = n

theorem cellsAt_window (hM : MemOK cx V.rd ρ β w) (hk : ∀ i k, V.kd i = some k → k.holds (ρ i)) {r off n : Nat} {cs xs : List S} {es : List E} (hcs : V.rd r = some cs) (hw : window cs off n = some xs) (hes : words V xs = some es) :
    es.length = n ∧ off + es.length ≤ cs.length ∧ u64s (es.map (E.den ρ)) ∧ cellsAt w (β r).1 ((β r).2 + off) (es.map (E.den ρ)) := by
  obtain ⟨h1, h2, h3⟩ := window_spec hw
  obtain ⟨g1, g2, g3, _⟩ := words_spec (β := β) hk hes
  refine ⟨by omega, by omega, g3, fun j x hj => ?_⟩
  have hj2 : (xs.map (S.den ρ β))[j]? = some (.int .u64 x) := by rw [g2, List.getElem?_map, hj]; rfl
  rw [List.getElem?_map, Option.map_eq_some_iff] at hj2
  obtain ⟨s, hs, hsd⟩ := hj2
  rw [← hsd, Nat.add_assoc]
  exact hM.cell r cs hcs (off + j) s (h3 j s hs)

theorem aArg_spec (hM : MemOK cx V.rd ρ β w) (hk : ∀ i k, V.kd i = some k → k.holds (ρ i)) {k : AK} {x : Operand} (hv : ∀ sv, V.v x = some sv → a.eval x = sv.den ρ β) {r : List E × Option (Nat × Nat)} (h : aArg V k x = some r) :
    ∃ y, ArgFor V ρ β w k r (a.eval x) y := by
  unfold aArg at h
  split at h
  · rename_i k k' e hx
    split at h
    case isFalse => cases h
    rename_i hif
    obtain ⟨rfl, hke⟩ := hif
    cases h
    exact ⟨.sc (e.den ρ), kdE_holds hk hke, hv _ hx, rfl, rfl, fun _ _ h => (by cases h), fun _ h => (by cases h)⟩
  · rename_i e hx
    split at h
    case isFalse => cases h
    rename_i hke
    cases h
    exact ⟨.sc (e.den ρ), kdE_holds hk hke, hv _ hx, rfl, rfl, fun _ _ h => (by cases h), fun _ h => (by cases h)⟩
  · rename_i e hx
    split at h
    case isFalse => cases h
    rename_i hke
    cases h
    exact ⟨.sc (e.den ρ), kdE_holds hk hke, hv _ hx, rfl, rfl, fun _ _ h => (by cases h), fun _ h => (by cases h)⟩
  · rename_i m n hx
    split at h
    case isFalse => cases h
    rename_i hke
    cases h
    exact ⟨.sc n, ⟨hke.1, K.holds_of_okB hke.2⟩, hv _ hx, rfl, rfl, fun _ _ h => (by cases h), fun _ h => (by cases h)⟩
  · rename_i n r off hx
    split at h
    case h_2 => cases h
    rename_i cs hcs
    split at h
    case h_2 => cases h
    rename_i xs hxs
    simp only [Option.map_eq_some_iff] at h
    obtain ⟨es, hes, rfl⟩ := h
    obtain ⟨g1, g2, g3, g4⟩ := cellsAt_window hM hk hcs hxs hes
    exact ⟨.ptr (β r).1 ((β r).2 + off) (es.map (E.den ρ)), ⟨by simpa using g1, g3, g4⟩, hv _ hx, rfl, by simp [AV.place, placeOf], fun _ _ h => (by cases h; exact ⟨cs, hcs, g2⟩), fun _ h => (by cases h; exact g1)⟩
  · rename_i n r off len cap hx
    split at h
    case isFalse => cases h
    rename_i hlen
    obtain ⟨hlen, hcap⟩ := hlen
    subst hlen hcap
    split at h
    case h_2 => cases h
    rename_i cs hcs
    split at h
    case h_2 => cases h
    rename_i xs hxs
    simp only [Option.map_eq_some_iff] at h
    obtain ⟨es, hes, rfl⟩ := h
    obtain ⟨g1, g2, g3, g4⟩ := cellsAt_window hM hk hcs hxs hes
    exact ⟨.slc (β r).1 ((β r).2 + off) _ (es.map (E.den ρ)), ⟨by simpa using g1, rfl, g3, g4⟩, by rw [hv _ hx]; simp [SV.den, S.den, AV.val, g1], rfl, by simp [AV.place, placeOf], fun _ _ h => (by cases h; exact ⟨cs, hcs, g2⟩), fun _ h => (by cases h)⟩
  · rename_i n xs hx
    split at h
    case isFalse => cases h
    rename_i hlen
    simp only [Option.map_eq_some_iff] at h
    obtain ⟨es, hes, rfl⟩ := h
    obtain ⟨g1, g2, g3, _⟩ := words_spec (β := β) hk hes
    exact ⟨.agg (es.map (E.den ρ)), ⟨by simp; omega, g3⟩, by rw [hv _ hx]; simp [SV.den, AV.val, g2], rfl, rfl, fun _ _ h => (by cases h), fun _ h => (by cases h)⟩
  · cases h

inductive ArgsFor (V : View) (ρ : Nat → Int) (β : Nat → Nat × Nat) (w : World) : List AK → List (List E × Option (Nat × Nat)) → List Value → List AV → Prop where
  | nil : ArgsFor V ρ β w [] [] [] []
  | cons {k : AK} {x : List E × Option (Nat × Nat)} {v : Value} {y : AV} {ks : List AK} {xs : List (List E × Option (Nat × Nat))} {vs : List Value} {ys : List AV}
      (h : ArgFor V ρ β w k x v y) (t : ArgsFor V ρ β w ks xs vs ys) : ArgsFor V ρ β w (k :: ks) (x :: xs) (v :: vs) (y :: ys)

theorem aArgs_spec (hM : MemOK cx V.rd ρ β w) (hk : ∀ i k, V.kd i = some k → k.holds (ρ i)) : ∀ {ks : List AK} {xs : List Operand} (_ : ∀ x ∈ xs, ∀ sv, V.v x = some sv → a.eval x = sv.den ρ β) {rs : List (List E × Option (Nat × Nat))},
    aArgs V ks xs = some rs → ∃ ys, ArgsFor V ρ β w ks rs (xs.map a.eval) ys
  | [], [], _, rs, h => by simp [aArgs] at h; subst h; exact ⟨[], .nil⟩
  | [], _ :: _, _, rs, h => by simp [aArgs] at h
  | _ :: _, [], _, rs, h => by simp [aArgs] at h
  | k :: ks, x :: xs, hv, rs, h => by
    unfold aArgs at h
    split at h
    case h_2 => cases h
    rename_i r rs' hr hrs
    cases h
    obtain ⟨y, hy⟩ := aArg_spec hM hk (hv x (by simp)) hr
    obtain ⟨ys, hys⟩ := aArgs_spec hM hk (fun z hz => hv z (by simp [hz])) hrs
    exact ⟨y :: ys, .cons hy hys⟩

theorem ArgsFor.avs {ks : List AK} {rs : List (List E × Option (Nat × Nat))} {vs : List Value} {ys : List AV} (h : ArgsFor V ρ β w ks rs vs ys) :
    AVs w ks ys ∧ vs = argVals ks ys ∧ ys.flatMap AV.ints = (rs.flatMap (·.1)).map (E.den ρ) ∧ (∀ i : Nat, (ys[i]?).bind AV.place = (rs[i]?).bind (placeOf β)) ∧
      (∀ (i : Nat) x r off, rs[i]? = some x → x.2 = some (r, off) → ∃ cs, V.rd r = some cs ∧ off + x.1.length ≤ cs.length) ∧
      (∀ (i : Nat) x n, rs[i]? = some x → ks[i]? = some (.ptr n) → x.1.length = n) := by
  induction h with
  | nil => exact ⟨.nil, rfl, rfl, fun i => rfl, fun i x r o h => (by simp at h), fun i x n h => (by simp at h)⟩
  | cons h t ih =>
    obtain ⟨i1, i2, i3, i4, i5, i6⟩ := ih
    refine ⟨.cons h.ok i1, by simp only [argVals, h.val, i2], by simp only [List.flatMap_cons, List.map_append, h.ints, i3], fun i => ?_, fun i x r o hx hr => ?_, fun i x n hx hr => ?_⟩
    · cases i with
      | zero => simpa using h.place
      | succ i => simpa using i4 i
    · cases i with
      | zero => simp at hx; subst hx; exact h.inside r o hr
      | succ i => exact i5 i x r o (by simpa using hx) hr
    · cases i with
      | zero => simp at hx hr; subst hx; exact h.len n hr
      | succ i => exact i6 i x n (by simpa using hx) (by simpa using hr)

theorem zipIdx_all' {α : Type} {p : α × Nat → Bool} {l : List α} (h : l.zipIdx.all p = true) (i : Nat) (x : α) (hx : l[i]? = some x) : p (x, i) = true := by
  rw [List.all_eq_true] at h
  refine h (x, i) ?_
  rw [List.mem_iff_getElem?]
  exact ⟨i, by simp [hx]⟩

theorem alB_spec {s : Summ} {i r off n : Nat} {rs : List (List E × Option (Nat × Nat))} {al : Option Nat} (h : alB s i r off n rs al = true) (j : Nat) (x : List E × Option (Nat × Nat)) (r' o' : Nat) (hx : rs[j]? = some x) (hp : x.2 = some (r', o')) (hji : j ≠ i) :
    (al = some j → r' = r ∧ o' = off ∧ s.args[j]? = s.args[i]?) ∧ (al ≠ some j → r' ≠ r ∨ o' + x.1.length ≤ off ∨ off + n ≤ o') := by
  have h1 := zipIdx_all' h j x hx
  simp only [hp, Bool.or_eq_true, beq_iff_eq] at h1
  rcases h1 with h1 | h1
  · exact absurd h1 hji
  · by_cases ha : al = some j
    · simp only [ha, if_true, Bool.and_eq_true, beq_iff_eq] at h1
      exact ⟨fun _ => ⟨h1.1.1, h1.1.2, h1.2⟩, fun hn => absurd ha hn⟩
    · simp only [ha, if_false, Bool.or_eq_true, bne_iff_ne, decide_eq_true_eq] at h1
      exact ⟨fun he => absurd he ha, fun _ => by omega⟩

theorem holdsAll_length : ∀ {ks : List K} {xs : List Int}, holdsAll ks xs → xs.length = ks.length
  | [], [], _ => rfl
  | _ :: _, _ :: _, h => by simp [holdsAll_length h.2]

theorem range_words {outs : List Int} {d n i : Nat} (h : d + n ≤ outs.length) (hρ : ∀ j, j < n → ρ (i + j) = outs.getD (d + j) 0) : (outs.drop d).take n = (List.range' i n).map ρ := by
  apply List.ext_getElem
  · simp; omega
  · intro j h1 h2
    have hj : j < n := by simp at h2; omega
    have := hρ j hj
    rw [List.getD_eq_getElem?_getD, List.getElem?_eq_getElem (by omega)] at this
    simp [this]

theorem den_range (i n : Nat) : ((List.range' i n).map fun j => S.int .u64 (.v j)).map (S.den ρ β) = ((List.range' i n).map ρ).map (Value.int .u64) := by
  simp [List.map_map, S.den, E.den]

theorem aRes_spec {as : List (List E × Option (Nat × Nat))} {ys : List AV} {nb nr : Nat} {outs : List Int} {β' : Nat → Nat × Nat} (hnb : β' nr = (nb, 0)) (hpl : ∀ i : Nat, (ys[i]?).bind AV.place = (as[i]?).bind (placeOf β'))
    {nv : Nat} (hρ : ∀ j, j < outs.length → ρ (nv + j) = outs.getD j 0) :
    ∀ {res : List RK} {d : Nat} {rs : List SV}, aRes nr as res (nv + d) = some rs → d + (kindsOf res).length ≤ outs.length → resVals ys nb res (outs.drop d) = rs.map (SV.den ρ β')
  | [], d, rs, h, _ => by simp [aRes] at h; subst h; rfl
  | .sc k :: res, d, rs, h, hl => by
    simp only [aRes, Option.map_eq_some_iff] at h
    obtain ⟨rs', hrs, rfl⟩ := h
    simp only [kindsOf, List.length_cons] at hl
    have ih := aRes_spec hnb hpl hρ (d := d + 1) (by simpa [Nat.add_assoc] using hrs) (by omega)
    have h0 : (outs.drop d).getD 0 0 = ρ (nv + d) := by
      rw [hρ d (by omega)]
      simp
    simp only [resVals, List.map_cons, h0, List.drop_drop]
    rw [ih]
    congr 1
    cases k <;> rfl
  | .arg i :: res, d, rs, h, hl => by
    simp only [aRes] at h
    split at h
    case h_2 => cases h
    rename_i r off hp
    simp only [Option.map_eq_some_iff] at h
    obtain ⟨rs', hrs, rfl⟩ := h
    have ih := aRes_spec hnb hpl hρ (d := d) hrs hl
    simp only [resVals, List.map_cons, ih]
    congr 1
    rw [Option.bind_eq_some_iff] at hp
    obtain ⟨x, hx, hx2⟩ := hp
    rw [hpl i, hx]
    simp [placeOf, hx2, SV.den, S.den]
  | .slc n :: res, d, rs, h, hl => by
    simp only [aRes, Option.map_eq_some_iff] at h
    obtain ⟨rs', hrs, rfl⟩ := h
    simp only [kindsOf, List.length_append, List.length_replicate] at hl
    have ih := aRes_spec hnb hpl hρ (d := d + n) (by simpa [Nat.add_assoc] using hrs) (by omega)
    simp only [resVals, List.map_cons, List.drop_drop, SV.den, S.den, hnb]
    rw [ih]
  | .agg n :: res, d, rs, h, hl => by
    simp only [aRes, Option.map_eq_some_iff] at h
    obtain ⟨rs', hrs, rfl⟩ := h
    simp only [kindsOf, List.length_append, List.length_replicate] at hl
    have ih := aRes_spec hnb hpl hρ (d := d + n) (by simpa [Nat.add_assoc] using hrs) (by omega)
    simp only [resVals, List.map_cons, List.drop_drop]
    rw [ih, range_words (ρ := ρ) (i := nv + d) (by omega) (fun j hj => by rw [Nat.add_assoc]; exact hρ _ (by omega))]
    congr 1
    simp only [SV.den, den_range]

theorem aFresh_spec {outs : List Int} {nv : Nat} (hρ : ∀ j, j < outs.length → ρ (nv + j) = outs.getD j 0) :
    ∀ {res : List RK} {d : Nat}, d + (kindsOf res).length ≤ outs.length →
      match aFresh res (nv + d) with
      | some cs => ∃ ws, freshOf res (outs.drop d) = some ws ∧ cs.map (S.den ρ β) = ws.map (Value.int .u64) ∧ cs.length = ws.length
      | none => freshOf res (outs.drop d) = none
  | [], d, _ => by simp [aFresh, freshOf]
  | .sc k :: res, d, hl => by
    simp only [kindsOf, List.length_cons] at hl
    have ih := aFresh_spec hρ (res := res) (d := d + 1) (by omega)
    simpa [aFresh, freshOf, Nat.add_assoc] using ih
  | .arg i :: res, d, hl => by
    have ih := aFresh_spec hρ (res := res) (d := d) hl
    simpa [aFresh, freshOf] using ih
  | .slc n :: res, d, hl => by
    simp only [kindsOf, List.length_append, List.length_replicate] at hl
    have hw := range_words (ρ := ρ) (outs := outs) (d := d) (n := n) (i := nv + d) (by omega) (fun j hj => by rw [Nat.add_assoc]; exact hρ _ (by omega))
    simp only [aFresh, freshOf]
    refine ⟨_, rfl, ?_, ?_⟩
    · rw [hw, den_range]
    · rw [hw]; simp
  | .agg n :: res, d, hl => by
    simp only [kindsOf, List.length_append, List.length_replicate] at hl
    have ih := aFresh_spec hρ (res := res) (d := d + n) (by omega)
    simpa [aFresh, freshOf, Nat.add_assoc] using ih

theorem oneTup_spec {rs : List SV} {sv : SV} {β' : Nat → Nat × Nat} (h : oneTup rs = some sv) : oneOrTuple (rs.map (SV.den ρ β')) = sv.den ρ β' := by
  unfold oneTup at h
  split at h
  · cases h; rfl
  · rename_i hne
    simp only [Option.map_eq_some_iff] at h
    obtain ⟨xs, hxs, rfl⟩ := h
    obtain ⟨h1, h2⟩ := mapM_some _ _ _ hxs
    have e : rs.map (SV.den ρ β') = xs.map (S.den ρ β') := by
      apply List.ext_getElem?
      intro j
      rw [List.getElem?_map, List.getElem?_map]
      cases hj : rs[j]? with
      | none =>
        have : xs[j]? = none := by rw [List.getElem?_eq_none_iff] at *; omega
        simp [this]
      | some x =>
        obtain ⟨y, hy, hxy⟩ := h2 j x hj
        cases x <;> simp at hxy
        subst hxy
        simp [hy, SV.den]
    have hl : (xs.map (S.den ρ β')).length ≠ 1 := by
      simp only [List.length_map, h1]
      intro hl
      obtain ⟨x, hx⟩ := List.length_eq_one_iff.1 hl
      exact hne x hx
    rw [e]
    generalize hL : xs.map (S.den ρ β') = L at *
    unfold oneOrTuple
    split
    · rename_i v; simp at hl
    · simp [SV.den, hL]

theorem runs_call {f : Nat} {s : Summ} {as : Array Operand} {ats : Array TypeId} (ho : o.op = .call { callee := .value (.func f), args := as, argTypes := ats }) (hs : SummOK P f s (Φ f))
    (hV : ViewOK V ρ β a o.op.operands) (hM : MemOK cx V.rd ρ β w) (hnr : V.rd V.nr = none) (h : aCallS cx V f s as.toList = some out) (hI : InsOK Φ ρ V.nv out.ins) : Runs P o a w ρ β V.nr out := by
  unfold aCallS at h
  split at h
  case h_1 => cases h
  rename_i rs hrs
  obtain ⟨ys, hys⟩ := aArgs_spec (a := a) hM hV.kd (fun x hx => hV.hv x (by simp only [ho, Op.operands, Call.operands]; simp at hx ⊢; exact .inr hx)) hrs
  obtain ⟨h1, h2, h3, h4, h5, h6⟩ := hys.avs
  simp only at h
  split at h
  case h_1 => cases h
  rename_i res hres
  split at h
  case h_1 => cases h
  rename_i sv hsv
  split at h
  case isFalse => cases h
  -- the numbers
  have hin : ∀ (ks : List AK) (ys : List AV), AVs w ks ys → holdsAll (ks.flatMap fun | .sc k => [k] | .cn _ => [.i .i64] | .ptr n | .slc n | .agg n => List.replicate n (.i .u64)) (ys.flatMap AV.ints) := by
    have app : ∀ (k1 : List K) (x1 : List Int) (k2 : List K) (x2 : List Int), holdsAll k1 x1 → holdsAll k2 x2 → holdsAll (k1 ++ k2) (x1 ++ x2) := by
      intro k1
      induction k1 with
      | nil => intro x1 k2 x2 g1 g2; cases x1 <;> simp_all [holdsAll]
      | cons k k1 ih => intro x1 k2 x2 g1 g2; cases x1 <;> simp_all [holdsAll]
    have rep : ∀ (ws : List Int), u64s ws → holdsAll (List.replicate ws.length (.i .u64)) ws := by
      intro ws
      induction ws with
      | nil => intro _; trivial
      | cons x ws ih => intro g; exact ⟨g x (by simp), ih fun y hy => g y (by simp [hy])⟩
    intro ks ys hav
    induction hav with
    | nil => trivial
    | @cons k y ks ys hk _ ih =>
      simp only [List.flatMap_cons]
      refine app _ _ _ _ ?_ ih
      match k, y, hk with
      | .sc k, .sc n, hk => exact ⟨hk, trivial⟩
      | .cn m, .sc n, hk => obtain ⟨rfl, hk⟩ := hk; exact ⟨hk, trivial⟩
      | .ptr n, .ptr b off ws, hk => obtain ⟨rfl, hw, _⟩ := hk; exact rep ws hw
      | .slc n, .slc b off cap ws, hk => obtain ⟨rfl, _, hw, _⟩ := hk; exact rep ws hw
      | .agg n, .agg ws, hk => obtain ⟨rfl, hw⟩ := hk; exact rep ws hw
  have hkinds := hs.kinds _ (hin _ _ h1)
  rw [h3] at hkinds
  generalize houts : Φ f ((rs.flatMap (·.1)).map (E.den ρ)) = outs at hkinds
  have hlen := holdsAll_length hkinds
  have hN : s.outKinds.length = wrLen s + (kindsOf s.res).length := by simp [Summ.outKinds]
  -- each out's equation says the same of the variables
  have hins : ∀ (ins : List (K × I)), ins = (s.outKinds.zipIdx).map (fun (k, j) => (k, I.fn f (rs.flatMap (·.1)) j)) → InsOK Φ ρ V.nv ins → ∀ j, j < outs.length → ρ (V.nv + j) = outs.getD j 0 := by
    intro ins he hI j hj
    have hj' : j < s.outKinds.length := by omega
    have := hI j (s.outKinds[j]) (I.fn f (rs.flatMap (·.1)) j) (by rw [he]; simp [hj'])
    rw [this.1, I.val, houts]
  have finish : ∀ (wr : Option (Nat × Nat × List S)) (fr : Option (List S)), out = { sv := sv, ins := (s.outKinds.zipIdx).map (fun (k, j) => (k, I.fn f (rs.flatMap (·.1)) j)), wr := wr, fr := fr, tch := rs.filterMap fun a => a.2.map (·.1) } →
      fr = aFresh s.res (V.nv + wrLen s) →
      aliasOK s ys →
      (∀ b off n, wrPlace s ys = some (b, off, n) → unfrozenAt w b off n ∧ n = wrLen s ∧ n ≤ outs.length ∧ ∃ r o', wr = some (r, o', (List.range' V.nv n).map fun j => .int .u64 (.v j)) ∧ (β r).1 = b ∧ (β r).2 + o' = off) →
      (wrPlace s ys = none → wr = none) → Runs P o a w ρ β V.nr out := by
    intro wr fr hout hfr hal hwr hwn K Q hK
    subst hout
    have hρ := hins _ rfl hI
    refine hs.calls ys w h1 hal (fun b off n hp => (hwr b off n hp).1) a o as ats K Q ho (by rw [Array.toList_map]; exact h2) (fun w' nb hpost => ?_)
    rw [h3, houts] at hpost ⊢
    have hfresh := aFresh_spec (β := β) (ρ := ρ) (outs := outs) (nv := V.nv) hρ (res := s.res) (d := wrLen s) (by omega)
    have hβ : ∃ β' : Nat → Nat × Nat, (∀ r, r ≠ V.nr → β' r = β r) ∧ (fr = none → β' = β) ∧ (∀ cs, fr = some cs → β' V.nr = (nb, 0)) := by
      cases fr with
      | none => exact ⟨β, fun _ _ => rfl, fun _ => rfl, fun _ h => (by cases h)⟩
      | some cs => exact ⟨fun r => if r = V.nr then (nb, 0) else β r, fun r hr => by simp [hr], fun h => (by cases h), fun _ _ => by simp⟩
    obtain ⟨β', hb1, hb2, hb3⟩ := hβ
    have hpl' : ∀ i : Nat, (ys[i]?).bind AV.place = (rs[i]?).bind (placeOf β') := by
      intro i
      rw [h4 i]
      cases hri : rs[i]? with
      | none => rfl
      | some x =>
        simp only [Option.bind_some, placeOf]
        cases hx2 : x.2 with
        | none => rfl
        | some p =>
          obtain ⟨cs, hcs, _⟩ := h5 i x p.1 p.2 hri hx2
          have hne : p.1 ≠ V.nr := fun e => by rw [e, hnr] at hcs; cases hcs
          simp [hb1 p.1 hne]
    have hval : oneOrTuple (resVals ys nb s.res (outs.drop (wrLen s))) = sv.den ρ β' := by
      cases hfr' : fr with
      | some cs =>
        have := aRes_spec (ρ := ρ) (hb3 cs hfr') hpl' hρ (res := s.res) (d := wrLen s) hres (by omega)
        rw [this]; exact oneTup_spec hsv
      | none =>
        -- no new memory is named: the block's number does not matter
        have hb0 : β' = β := hb2 hfr'
        have hno : ∀ (l : List RK) (xs : List Int) (n1 n2 i : Nat), aFresh l i = none → resVals ys n1 l xs = resVals ys n2 l xs := by
          intro l
          induction l with
          | nil => intro xs n1 n2 i _; rfl
          | cons x l ih =>
            intro xs n1 n2 i hl
            cases x with
            | sc k => simp only [resVals]; rw [ih _ n1 n2 (i + 1) (by simpa [aFresh] using hl)]
            | arg k => simp only [resVals]; rw [ih _ n1 n2 i (by simpa [aFresh] using hl)]
            | slc n => simp [aFresh] at hl
            | agg n => simp only [resVals]; rw [ih _ n1 n2 (i + n) (by simpa [aFresh] using hl)]
        have hno' : ∀ (l : List RK) (i n1 n2 : Nat) r, aFresh l i = none → aRes n1 rs l i = some r → aRes n2 rs l i = some r := by
          intro l
          induction l with
          | nil => intro i n1 n2 r _ h; exact h
          | cons x l ih =>
            intro i n1 n2 r hl h
            cases x with
            | sc k =>
              simp only [aRes, Option.map_eq_some_iff] at h ⊢
              obtain ⟨r', hr', rfl⟩ := h
              exact ⟨r', ih _ n1 n2 r' (by simpa [aFresh] using hl) hr', rfl⟩
            | arg k =>
              simp only [aRes] at h ⊢
              split at h
              · rename_i r0 o0 hp
                simp only [Option.map_eq_some_iff] at h ⊢
                obtain ⟨r', hr', rfl⟩ := h
                exact ⟨r', ih _ n1 n2 r' (by simpa [aFresh] using hl) hr', rfl⟩
              · cases h
            | slc n => simp [aFresh] at hl
            | agg n =>
              simp only [aRes, Option.map_eq_some_iff] at h ⊢
              obtain ⟨r', hr', rfl⟩ := h
              exact ⟨r', ih _ n1 n2 r' (by simpa [aFresh] using hl) hr', rfl⟩
        have hfn : aFresh s.res (V.nv + wrLen s) = none := by rw [← hfr, hfr']
        -- name the block by a region of its own
        let β2 : Nat → Nat × Nat := fun r => if r = V.nr then (nb, 0) else β r
        have hpl2 : ∀ i : Nat, (ys[i]?).bind AV.place = (rs[i]?).bind (placeOf β2) := by
          intro i
          rw [h4 i]
          cases hri : rs[i]? with
          | none => rfl
          | some x =>
            simp only [Option.bind_some, placeOf]
            cases hx2 : x.2 with
            | none => rfl
            | some p =>
              obtain ⟨cs, hcs, _⟩ := h5 i x p.1 p.2 hri hx2
              have hne : p.1 ≠ V.nr := fun e => by rw [e, hnr] at hcs; cases hcs
              simp [β2, hne]
        have := aRes_spec (ρ := ρ) (β' := β2) (nr := V.nr) (nb := nb) (by simp [β2]) hpl2 hρ (res := s.res) (d := wrLen s) hres (by omega)
        rw [this, oneTup_spec hsv, hb0]
        -- no result names that region
        have href : ∀ (l : List RK) (i : Nat) r, aFresh l i = none → aRes V.nr rs l i = some r → ∀ x ∈ r, ∀ q ∈ x.refs, q ≠ V.nr := by
          intro l
          induction l with
          | nil => intro i r _ h x hx; simp [aRes] at h; subst h; simp at hx
          | cons y l ih =>
            intro i r hl h x hx q hq
            cases y with
            | sc k =>
              simp only [aRes, Option.map_eq_some_iff] at h
              obtain ⟨r', hr', rfl⟩ := h
              simp only [List.mem_cons] at hx
              rcases hx with rfl | hx
              · cases k <;> simp [SV.refs, S.ref] at hq
              · exact ih _ r' (by simpa [aFresh] using hl) hr' x hx q hq
            | arg k =>
              simp only [aRes] at h
              split at h
              · rename_i r0 o0 hp
                simp only [Option.map_eq_some_iff] at h
                obtain ⟨r', hr', rfl⟩ := h
                simp only [List.mem_cons] at hx
                rcases hx with rfl | hx
                · simp [SV.refs, S.ref] at hq
                  subst hq
                  rw [Option.bind_eq_some_iff] at hp
                  obtain ⟨x, hx, hx2⟩ := hp
                  obtain ⟨cs, hcs, _⟩ := h5 k x q o0 hx hx2
                  intro e; rw [e, hnr] at hcs; cases hcs
                · exact ih _ r' (by simpa [aFresh] using hl) hr' x hx q hq
              · cases h
            | slc n => simp [aFresh] at hl
            | agg n =>
              simp only [aRes, Option.map_eq_some_iff] at h
              obtain ⟨r', hr', rfl⟩ := h
              simp only [List.mem_cons] at hx
              rcases hx with rfl | hx
              · simp [SV.refs, List.filterMap_map, S.ref] at hq
              · exact ih _ r' (by simpa [aFresh] using hl) hr' x hx q hq
        refine SV.den_congr fun q hq => ?_
        have hq' : q ≠ V.nr := by
          have hall := href _ _ _ hfn hres
          unfold oneTup at hsv
          split at hsv
          · cases hsv; exact hall _ (by simp) q hq
          · simp only [Option.map_eq_some_iff] at hsv
            obtain ⟨xs, hxs, rfl⟩ := hsv
            simp only [SV.refs, List.mem_filterMap] at hq
            obtain ⟨x, hx, hxq⟩ := hq
            obtain ⟨j, hj, hjx⟩ := List.getElem_of_mem hx
            obtain ⟨g1, g2⟩ := mapM_some _ _ _ hxs
            obtain ⟨y, hy, hxy⟩ := g2 j (res[j]'(by omega)) (by simp)
            have hyx : y = x := by rw [List.getElem?_eq_getElem hj, hjx] at hy; simpa using hy.symm
            subst hyx
            refine hall (res[j]'(by omega)) (List.getElem_mem _) q ?_
            cases hr : (res[j]'(by omega)) with
            | s z => rw [hr] at hxy; simp at hxy; subst hxy; simp [SV.refs, hxq]
            | agg z => rw [hr] at hxy; simp at hxy
            | tup z => rw [hr] at hxy; simp at hxy
        simp [β2, hq']
    rw [hval]
    refine hK β' w' ⟨?_, ?_, ?_, hb1, hb2⟩
    · -- what is kept
      have e : ∀ b off, wrSet (wrPlace s ys) b off → outSet β wr b off := by
        intro b off hset
        cases hp : wrPlace s ys with
        | none => rw [hp] at hset; exact hset.elim
        | some p =>
          obtain ⟨b0, o0, n⟩ := p
          rw [hp] at hset
          obtain ⟨_, _, _, r, o', hw, e1, e2⟩ := hwr b0 o0 n hp
          rw [hw]
          simp only [wrSet] at hset
          simp only [outSet, List.length_map, List.length_range']
          omega
      exact ⟨hpost.keeps.os, hpost.keeps.tape, hpost.keeps.output, hpost.keeps.size, fun b hb => by
        rcases hpost.keeps.blk b hb with g | ⟨c, c', t, fz, g1, g2, g3, g4⟩
        · exact .inl g
        · exact .inr ⟨c, c', t, fz, g1, g2, g3, fun j hj => g4 j fun hs => hj (e b j hs)⟩⟩
    · intro r off cs hw j x hx
      cases hp : wrPlace s ys with
      | none => rw [hwn hp] at hw; cases hw
      | some p =>
        obtain ⟨b0, o0, n⟩ := p
        obtain ⟨_, hn, hnl, r', o', hw', e1, e2⟩ := hwr b0 o0 n hp
        rw [hw'] at hw
        cases hw
        have hc := hpost.wr b0 o0 n hp
        have hcells : ((outs.drop 0).take n) = (List.range' V.nv n).map ρ := range_words (by omega) (fun j hj => by simpa using hρ j (by omega))
        rw [List.drop_zero] at hcells
        rw [hcells] at hc
        rw [e1, e2]
        rw [List.getElem?_map, Option.map_eq_some_iff] at hx
        obtain ⟨i, hi, rfl⟩ := hx
        exact hc j (ρ i) (by rw [List.getElem?_map, hi]; rfl)
    · intro cs hcs
      simp only at hcs
      subst hfr
      rw [hcs] at hfresh
      obtain ⟨ws, hws, hden, hl⟩ := hfresh
      obtain ⟨g1, g2, g3, g4⟩ := hpost.fr ws hws
      rw [hb3 cs hcs]
      refine ⟨g1, g2, rfl, fun j x hx => ?_, fun j hj => g4 j (by omega)⟩
      have : (cs.map (S.den ρ β))[j]? = some (x.den ρ β) := by rw [List.getElem?_map, hx]; rfl
      rw [hden, List.getElem?_map, Option.map_eq_some_iff] at this
      obtain ⟨n, hn, hnx⟩ := this
      rw [← hnx]
      exact g3 j n hn
  split at h
  · rename_i hwr
    simp only [Option.some.injEq] at h
    refine finish none _ h.symm rfl (fun i p hi => by rw [hwr] at hi; cases hi) (fun b off n hp => by simp [wrPlace, hwr] at hp) (fun _ => rfl)
  · rename_i i hwr
    split at h
    case h_2 => cases h
    rename_i n r off hsi hri
    split at h
    case isFalse => cases h
    rename_i hif
    obtain ⟨hwrt, hal⟩ := hif
    simp only [Option.some.injEq] at h
    rw [Option.bind_eq_some_iff] at hri
    obtain ⟨x, hx, hx2⟩ := hri
    obtain ⟨cs, hcs, hin'⟩ := h5 i x r off hx hx2
    have hxl := h6 i x n hx hsi
    have hpl : (ys[i]?).bind AV.place = some ((β r).1, (β r).2 + off, n) := by rw [h4 i, hx]; simp [placeOf, hx2, hxl]
    have hwl : wrLen s = n := by simp [wrLen, hwr, hsi]
    refine finish (some (r, off, (List.range' V.nv n).map fun j => .int .u64 (.v j))) _ h.symm rfl ?_ ?_ ?_
    · intro i' p hi' hp
      rw [hwr] at hi'; cases hi'
      rw [hpl] at hp; cases hp
      refine ⟨alOf i r off rs, fun j q hji hq => ?_⟩
      rw [h4 j, Option.bind_eq_some_iff] at hq
      obtain ⟨y, hy, hyp⟩ := hq
      simp only [placeOf, Option.map_eq_some_iff] at hyp
      obtain ⟨p2, hy2, rfl⟩ := hyp
      obtain ⟨r2, o2⟩ := p2
      obtain ⟨cs2, hcs2, hin2⟩ := h5 j y r2 o2 hy hy2
      obtain ⟨k1, k2⟩ := alB_spec hal j y r2 o2 hy hy2 hji
      refine ⟨fun ha => ?_, fun ha => ?_⟩
      · obtain ⟨rfl, rfl, e⟩ := k1 ha
        exact ⟨rfl, rfl, e⟩
      · have hab := k2 ha
        simp only [apartPl]
        by_cases hr : r2 = r
        · subst hr
          omega
        · have := hM.apart r cs r2 cs2 hcs hcs2 (Ne.symm hr) hwrt
          omega
    · intro b o' n' hp
      simp only [wrPlace, hwr, Option.bind_some] at hp
      rw [hpl] at hp
      cases hp
      refine ⟨fun j hj => ?_, hwl.symm, by omega, r, off, rfl, rfl, rfl⟩
      have := hM.free r cs hcs hwrt (off + j) (by omega)
      rwa [← Nat.add_assoc] at this
    · intro hp
      simp only [wrPlace, hwr, Option.bind_some] at hp
      rw [hpl] at hp
      cases hp


theorem absOp_sound (htbl : ∀ f s, findS cx.tbl f = some s → SummOK P f s (Φ f)) (hV : ViewOK V ρ β a o.op.operands) (hM : MemOK cx V.rd ρ β w) (hnr : V.rd V.nr = none)
    (h : absOp cx P V o.op = some out) (hI : InsOK Φ ρ V.nv out.ins) : Runs P o a w ρ β V.nr out := by
  generalize hop : o.op = op at h
  unfold absOp at h
  split at h
  · exact runs_move (.inl hop) hV h _
  · exact runs_move (.inr hop) hV h _
  · exact runs_pick hop hV h hI _
  · exact runs_alloc hop h
  · exact runs_box hop hV h
  · exact runs_load hop hV hM h _
  · exact runs_store hop hV hM h _
  · exact runs_nil hop hV h _
  · exact runs_bin hop hV h hI _
  · exact runs_un hop hV h hI _
  · exact runs_cnv hop hV h hI _
  · exact runs_ext hop hV h _
  · exact runs_idx hop hV h _
  · exact runs_slice hop hV h _
  · exact runs_make hop hV h
  · exact runs_build hop hV h _
  · exact runs_buildSlice hop hV h
  · exact runs_len hop hV h _
  · exact runs_maxmin (mx := true) rfl hop hV h hI _
  · exact runs_maxmin (mx := false) rfl hop hV h hI _
  · split at h
    · rename_i s hs
      exact runs_call hop (htbl _ _ hs) hV hM hnr h hI
    · cases h
  · exact runs_idv hop hV h _
  · cases h

end
end Go.Sym
