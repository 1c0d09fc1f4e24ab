/- From a function's summary to its contract at a call: what it answers, what becomes of the memory. -/
import Derived.Test.YtdjdbacpokclpaaSymZ
import Derived.Test.YtdjdbacpokclpaaSymAa
set_option linter.unusedVariables false
set_option linter.unusedSimpArgs false
namespace Go.Sym
open Go.RowKit

section
variable {P : Program} {w : World}

theorem calls_any {f : Nat} {fn : Func} {c : Code} {s : Summ} {F : List Int → List Int} (hf : P.funcs[f]? = some fn) (hname : (fn.name == "runtime.NumGoroutine") = false) (hb : fn.body = some c)
    (h : SummOK P f s F) (xs : List AV) (hav : AVs w s.args xs) (hali : aliasOK s xs) (hun : ∀ b o n, wrPlace s xs = some (b, o, n) → unfrozenAt w b o n) :
    Calls P f (argVals s.args xs).toArray w fun e w' => ∃ nb, e = .returned (oneOrTuple (resVals xs nb s.res ((F (xs.flatMap AV.ints)).drop (wrLen s)))) ∧ CallPost s xs (F (xs.flatMap AV.ints)) w w' nb := by
  have key := h.calls xs w hav hali hun
    { tmps := (argVals s.args xs).toArray ++ #[undef], defers := [] } { dst := some s.args.length, op := .call { callee := .value (.func f), args := ((List.range s.args.length).map Operand.tmp).toArray, argTypes := #[] }, type := 0, pos := "", after := #[], guard := none }
    ((List.range s.args.length).map Operand.tmp).toArray #[] (fun a' w' => ∃ nb, a'.tmps.getD s.args.length undef = oneOrTuple (resVals xs nb s.res ((F (xs.flatMap AV.ints)).drop (wrLen s))) ∧ CallPost s xs (F (xs.flatMap AV.ints)) w w' nb) (fun _ _ _ => False) rfl ?_ (fun w' nb hp => ?_)
  · have hexec : execOp (Act.eval { tmps := (argVals s.args xs).toArray ++ #[undef], defers := [] }) { dst := some s.args.length, op := .call { callee := .value (.func f), args := ((List.range s.args.length).map Operand.tmp).toArray, argTypes := #[] }, type := 0, pos := "", after := #[], guard := none } =
        callFunc f (argVals s.args xs).toArray := by
      show callFunc f (#[] ++ (((List.range s.args.length).map Operand.tmp).toArray.map (Act.eval { tmps := (argVals s.args xs).toArray ++ #[undef], defers := [] })) ++ #[]) = _
      congr 1
      simp only [Array.empty_append, Array.append_empty]
      obtain ⟨v1, _⟩ := hav.vals
      apply Array.ext
      · simp [v1]
      · intro i h1 h2
        simp at h1 h2
        simp [Act.eval, List.getElem?_append_left h2, List.getElem?_eq_getElem h2]
    unfold Oper.wp at key
    rw [hexec, Go.Proofs.enters_of hf hname hb, Oper.upon_enter] at key
    obtain ⟨v1, _⟩ := hav.vals
    refine key.mono fun e w' he => ?_
    cases e with
    | returned v =>
      obtain ⟨nb, h1, h2⟩ := he
      refine ⟨nb, ?_, h2⟩
      simp [Act.put, v1] at h1
      rw [h1]
    | panicked ch => exact he.elim
    | outgrown => exact absurd he (by simp [LetsOut])
  · obtain ⟨v1, _⟩ := hav.vals
    apply List.ext_getElem
    · simp [v1]
    · intro i h1 h2
      simp at h1 h2
      simp [Act.eval, List.getElem?_append_left h2, List.getElem?_eq_getElem h2]
  · obtain ⟨v1, _⟩ := hav.vals
    exact ⟨nb, by simp [Act.put, v1], hp⟩

theorem post_below {s : Summ} {xs : List AV} {outs : List Int} {w' : World} {nb : Nat} (hwr : s.wr = none) (h : CallPost s xs outs w w' nb) : Below w.heap.size w w' := by
  have hk := h.keeps
  have : wrPlace s xs = none := by simp [wrPlace, hwr]
  rw [this] at hk
  exact (hk.mono fun b o h => h).below

/-- Words at a place, of a slice or of a pointer. -/
theorem cellsAt_below {w w' : World} {b o : Nat} {ws : List Int} (h : cellsAt w b o ws) (hb : Below w.heap.size w w') (hne : ws ≠ []) : cellsAt w' b o ws := by
  intro j x hx
  have := h j x hx
  exact (hb.cell (cell_lt this)).trans this

/-- Is a number of words below another. -/
theorem less_calls {n f : Nat} {fn : Func} {c : Code} (hf : P.funcs[f]? = some fn) (hname : (fn.name == "runtime.NumGoroutine") = false) (hb : fn.body = some c) (h : SummOK P f ⟨[.slc n, .slc n], none, [.sc .bool]⟩ (lessF n))
    {b1 o1 b2 o2 : Nat} {x y : List Int} (lx : x.length = n) (ly : y.length = n) (ux : u64s x) (uy : u64s y) (hx : cellsAt w b1 o1 x) (hy : cellsAt w b2 o2 y) :
    Calls P f #[.slice (some ⟨b1, o1, none⟩) n n, .slice (some ⟨b2, o2, none⟩) n n] w fun e w' => e = .returned (.bool (decide (val x < val y))) ∧ Below w.heap.size w w' := by
  have key := calls_any (w := w) hf hname hb h [.slc b1 o1 n x, .slc b2 o2 n y] (.cons ⟨lx, rfl, ux, hx⟩ (.cons ⟨ly, rfl, uy, hy⟩ .nil)) (fun i p hi => by cases hi) (fun b o n hp => by simp [wrPlace] at hp)
  have e : (argVals [AK.slc n, AK.slc n] [.slc b1 o1 n x, .slc b2 o2 n y]).toArray = #[.slice (some ⟨b1, o1, none⟩) n n, .slice (some ⟨b2, o2, none⟩) n n] := by
    simp [argVals, AV.val, lx, ly]
  rw [e] at key
  refine key.mono fun e w' ⟨nb, he, hp⟩ => ⟨?_, post_below rfl hp⟩
  rw [he]
  have e1 : (x ++ y).take n = x := by rw [← lx]; exact List.take_left
  have e2 : (x ++ y).drop n = y := by rw [← lx]; exact List.drop_left
  simp only [wrLen, List.flatMap_cons, List.flatMap_nil, AV.ints, List.append_nil, lessF, e1, e2, Option.bind_none, List.drop_zero, resVals, oneOrTuple, K.val, List.getD_cons_zero]
  congr 2
  simp only [b2i]
  by_cases hlt : val x < val y <;> simp [hlt]

/-- New words that are always the same ones. -/
theorem words_calls {n f : Nat} {fn : Func} {c : Code} {ps : List Int} {F : List Int → List Int} (hf : P.funcs[f]? = some fn) (hname : (fn.name == "runtime.NumGoroutine") = false) (hb : fn.body = some c) (h : SummOK P f ⟨[], none, [.slc n]⟩ F)
    (hF : F [] = ps) (lp : ps.length = n) : Calls P f #[] w fun e w' => ∃ g, e = .returned (.slice (some ⟨g, 0, none⟩) n n) ∧ w.heap.size ≤ g ∧ g < w'.heap.size ∧ cellsAt w' g 0 ps ∧ Below w.heap.size w w' := by
  have key := calls_any (w := w) hf hname hb h [] .nil (fun i p hi => by cases hi) (fun b o n hp => by simp [wrPlace] at hp)
  refine key.mono fun e w' ⟨nb, he, hp⟩ => ⟨nb, ?_, ?_⟩
  · rw [he]
    simp [resVals, oneOrTuple]
  · have hfr := hp.fr ps (by simp [freshOf, wrLen, hF, List.take_of_length_le (Nat.le_of_eq lp)])
    exact ⟨hfr.1, hfr.2.1, hfr.2.2.1, post_below rfl hp⟩

/-- An array, out of two. -/
theorem agg2_calls {n f : Nat} {fn : Func} {c : Code} {F : List Int → List Int} (hf : P.funcs[f]? = some fn) (hname : (fn.name == "runtime.NumGoroutine") = false) (hb : fn.body = some c) (h : SummOK P f ⟨[.agg n, .agg n], none, [.agg n]⟩ F)
    {x y z : List Int} (lx : x.length = n) (ly : y.length = n) (ux : u64s x) (uy : u64s y) (hF : F (x ++ y) = z) (lz : z.length = n) :
    Calls P f #[.agg (x.map (Value.int .u64)).toArray, .agg (y.map (Value.int .u64)).toArray] w fun e w' => e = .returned (.agg (z.map (Value.int .u64)).toArray) ∧ Below w.heap.size w w' := by
  have key := calls_any (w := w) hf hname hb h [.agg x, .agg y] (.cons ⟨lx, ux⟩ (.cons ⟨ly, uy⟩ .nil)) (fun i p hi => by cases hi) (fun b o n hp => by simp [wrPlace] at hp)
  refine key.mono fun e w' ⟨nb, he, hp⟩ => ⟨?_, post_below rfl hp⟩
  rw [he]
  simp only [wrLen, List.flatMap_cons, List.flatMap_nil, AV.ints, List.append_nil, hF, Option.bind_none, List.drop_zero, resVals, oneOrTuple]
  rw [List.take_of_length_le (Nat.le_of_eq lz)]

theorem agg0_calls {n f : Nat} {fn : Func} {c : Code} {F : List Int → List Int} (hf : P.funcs[f]? = some fn) (hname : (fn.name == "runtime.NumGoroutine") = false) (hb : fn.body = some c) (h : SummOK P f ⟨[], none, [.agg n]⟩ F)
    {z : List Int} (hF : F [] = z) (lz : z.length = n) : Calls P f #[] w fun e w' => e = .returned (.agg (z.map (Value.int .u64)).toArray) ∧ Below w.heap.size w w' := by
  have key := calls_any (w := w) hf hname hb h [] .nil (fun i p hi => by cases hi) (fun b o n hp => by simp [wrPlace] at hp)
  refine key.mono fun e w' ⟨nb, he, hp⟩ => ⟨?_, post_below rfl hp⟩
  rw [he]
  simp only [wrLen, List.flatMap_nil, hF, Option.bind_none, List.drop_zero, resVals, oneOrTuple]
  rw [List.take_of_length_le (Nat.le_of_eq lz)]

/-- A sum, written at the first place. -/
theorem add_calls {n f : Nat} {fn : Func} {c : Code} {F : List Int → List Int} (hf : P.funcs[f]? = some fn) (hname : (fn.name == "runtime.NumGoroutine") = false) (hb : fn.body = some c) (h : SummOK P f ⟨[.ptr n, .ptr n, .ptr n], some 0, [.arg 0]⟩ F)
    {bz oz bx ox b_y oy : Nat} {z x y s : List Int} (lz : z.length = n) (lx : x.length = n) (ly : y.length = n) (uz : u64s z) (ux : u64s x) (uy : u64s y) (hz : cellsAt w bz oz z) (hx : cellsAt w bx ox x) (hy : cellsAt w b_y oy y)
    (nx : bz ≠ bx) (ny : bz ≠ b_y) (hun : unfrozenAt w bz oz n) (hF : F (z ++ (x ++ y)) = s) (ls : s.length = n) :
    Calls P f #[.pointer (some ⟨bz, oz, none⟩), .pointer (some ⟨bx, ox, none⟩), .pointer (some ⟨b_y, oy, none⟩)] w fun e w' =>
      e = .returned (.pointer (some ⟨bz, oz, none⟩)) ∧ cellsAt w' bz oz s ∧ Keeps w w' (fun b o => b = bz ∧ oz ≤ o ∧ o < oz + n) := by
  have key := calls_any (w := w) hf hname hb h [.ptr bz oz z, .ptr bx ox x, .ptr b_y oy y] (.cons ⟨lz, uz, hz⟩ (.cons ⟨lx, ux, hx⟩ (.cons ⟨ly, uy, hy⟩ .nil)))
    (fun i p hi hp => by
      simp only [Option.some.injEq] at hi
      subst hi
      simp [AV.place] at hp
      subst hp
      refine ⟨none, fun j q hj hq => ⟨fun e => (by cases e), fun _ => ?_⟩⟩
      match j, hj, hq with
      | 1, _, hq => simp [AV.place] at hq; subst hq; exact .inl nx
      | 2, _, hq => simp [AV.place] at hq; subst hq; exact .inl ny
      | j + 3, _, hq => simp at hq) (fun b o m hp => by
      simp [wrPlace, AV.place] at hp
      obtain ⟨rfl, rfl, rfl⟩ := hp
      rw [lz]
      exact hun)
  refine key.mono fun e w' ⟨nb, he, hp⟩ => ⟨?_, ?_, ?_⟩
  · rw [he]
    simp [resVals, oneOrTuple, AV.place]
  · have := hp.wr bz oz n (by simp [wrPlace, AV.place, lz])
    simp only [List.flatMap_cons, List.flatMap_nil, AV.ints, List.append_nil, hF, List.take_of_length_le (Nat.le_of_eq ls)] at this
    exact this
  · refine hp.keeps.mono fun b o h => ?_
    simp only [wrPlace, AV.place, Option.bind_some, List.getElem?_cons_zero, wrSet] at h
    rw [lz] at h
    exact h

end
end Go.Sym
