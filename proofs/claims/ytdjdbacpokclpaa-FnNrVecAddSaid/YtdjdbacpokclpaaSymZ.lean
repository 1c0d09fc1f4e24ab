/- From a law's summary to a row's step: arrays of words as arguments, opened and shut; behind the call nothing old has turned. -/
import Derived.Test.YtdjdbacpokclpaaSymX
import Derived.WalkKit
import Derived.ProofKit
import Derived.OpenShut
import Derived.DataBytes
namespace Go.Sym
open Go.ChangeShapes Go.WideShapes Go.ChangeAt Go.RowKit

section
variable {H : Type} {enc : TypeId × Value → H} {P : Program} {w W W' : World} {base : Nat} {spare : Nat → Bool} {held : Bool} {t : TypeId}

theorem calls_of_summ {f : Nat} {fn : Func} {c : Code} {s : Summ} {F : List Int → List Int} (hf : P.funcs[f]? = some fn) (hname : (fn.name == "runtime.NumGoroutine") = false) (hb : fn.body = some c)
    (h : SummOK P f s F) (hwr : s.wr = none) (hres : s.res = [.sc .bool]) (xs : List AV) (hav : AVs w s.args xs) (hF : F (xs.flatMap AV.ints) = [1]) :
    Calls P f (argVals s.args xs).toArray w fun e w' => e = .returned (.bool true) ∧ Below w.heap.size w w' := by
  have key := h.calls xs w hav (fun i p hi => by rw [hwr] at hi; cases hi) (fun b o n hp => by simp [wrPlace, hwr] at hp)
    { tmps := (argVals s.args xs).toArray ++ #[undef], defers := [] } { dst := some s.args.length, op := .call { callee := .value (.func f), args := ((List.range s.args.length).map Operand.tmp).toArray, argTypes := #[] }, type := 0, pos := "", after := #[], guard := none }
    ((List.range s.args.length).map Operand.tmp).toArray #[] (fun a' w' => a'.tmps.getD s.args.length undef = .bool true ∧ Below w.heap.size w w') (fun _ _ _ => False) rfl ?_ (fun w' nb hp => ?_)
  · have hexec : execOp (Act.eval { tmps := (argVals s.args xs).toArray ++ #[undef], defers := [] }) { dst := some s.args.length, op := .call { callee := .value (.func f), args := ((List.range s.args.length).map Operand.tmp).toArray, argTypes := #[] }, type := 0, pos := "", after := #[], guard := none } =
        callFunc f (argVals s.args xs).toArray := by
      show callFunc f (#[] ++ (((List.range s.args.length).map Operand.tmp).toArray.map (Act.eval { tmps := (argVals s.args xs).toArray ++ #[undef], defers := [] })) ++ #[]) = _
      congr 1
      simp only [Array.empty_append, Array.append_empty]
      obtain ⟨v1, _⟩ := hav.vals
      apply Array.ext
      · simp [v1]
      · intro i h1 h2
        simp at h1 h2
        simp [Act.eval, List.getElem?_append_left h2, List.getElem?_eq_getElem h2]
    unfold Oper.wp at key
    rw [hexec, Go.Proofs.enters_of hf hname hb, Oper.upon_enter] at key
    obtain ⟨v1, _⟩ := hav.vals
    refine key.mono fun e w' he => ?_
    cases e with
    | returned v =>
      obtain ⟨h1, h2⟩ := he
      refine ⟨?_, h2⟩
      simp [Act.put, v1] at h1
      rw [h1]
    | panicked ch => exact he.elim
    | outgrown => exact absurd he (by simp [LetsOut])
  · obtain ⟨v1, _⟩ := hav.vals
    apply List.ext_getElem
    · simp [v1]
    · intro i h1 h2
      simp at h1 h2
      simp [Act.eval, List.getElem?_append_left h2, List.getElem?_eq_getElem h2]
  · obtain ⟨v1, _⟩ := hav.vals
    refine ⟨?_, ?_⟩
    · have hwl : wrLen s = 0 := by simp [wrLen, hwr]
      rw [hF, hwl, hres]
      simp [resVals, oneOrTuple, K.val, Act.put, v1]
    · have hk := hp.keeps
      have : wrPlace s xs = none := by simp [wrPlace, hwr]
      rw [this] at hk
      exact (hk.mono fun b o h => h).below

theorem wf_u64 {n : Int} (h : (Lit.int .u64 n).wf = true) : (K.i .u64).holds n := by
  simp [Lit.wf, IntKind.min, IntKind.max, IntKind.signed, IntKind.bits] at h
  simp only [K.holds]
  omega

theorem u64_wf {n : Int} (h : (K.i .u64).holds n) : (Lit.int .u64 n).wf = true := by
  simp only [K.holds] at h
  simp [Lit.wf, IntKind.min, IntKind.max, IntKind.signed, IntKind.bits]
  omega

/-- An array of words, opened. -/
theorem open_words {n : Nat} {e : TypeId} {v : Value} {d : DataW H} {p : List MemPlace} (ht : P.underlying t = some (.array n e)) (he : P.underlying e = some (.int .u64)) (hc : P.cellsOf t = n) (hce : P.cellsOf e = 1)
    (hok : Value.okWide P w .any base t v) (h : DataW.Trod enc P w 0 spare held t v d p) :
    ∃ ws : List Int, v = .agg (ws.map (Value.int .u64)).toArray ∧ d = .agg (ws.map fun x => .lit (.int .u64 x)) ∧ p = [] ∧ ws.length = n ∧ u64s ws := by
  obtain ⟨cs, rfl, hsz, _⟩ : ∃ cs, v = .agg cs ∧ cs.size = P.cellsOf t ∧ Row.okWide P w .any base t cs := by simpa [Value.okWide, ht] using hok
  obtain ⟨fuel, hf⟩ := h
  obtain ⟨xs, m, _, hx, _, hl, hel⟩ := DataW.trod_array ht hf
  rw [hc] at hsz
  have step : ∀ i, i < n → ∃ x, cs.toList[i]? = some (.int .u64 x) ∧ xs[i]? = some (.lit (.int .u64 x), []) ∧ (K.i .u64).holds x := by
    intro i hi
    have h1 := hel i hi
    rw [hce, Nat.mul_one, List.getElem?_eq_getElem (by omega)] at h1
    obtain ⟨x, e1, e2, e3⟩ := DataW.trod_int he h1
    refine ⟨x, ?_, by rw [List.getElem?_eq_getElem (by omega), e2], wf_u64 e3⟩
    have : (((Value.agg cs).cells.toList.drop i).take 1)[0]? = some (.int .u64 x) := by rw [e1]; rfl
    simpa [Value.cells] using this
  let g : Value → Int := fun v => match v with | .int _ x => x | _ => 0
  have hcs : cs.toList = (cs.toList.map g).map (Value.int .u64) := by
    apply List.ext_getElem
    · simp
    · intro i h1 h2
      obtain ⟨x, hx1, _⟩ := step i (by simpa [hsz] using h1)
      rw [List.getElem?_eq_getElem h1, Option.some.injEq] at hx1
      simp only [List.getElem_map, hx1, g]
  have hxs : xs = (cs.toList.map g).map fun x => (DataW.lit (.int .u64 x), []) := by
    apply List.ext_getElem
    · simp [hl, hsz]
    · intro i h1 h2
      obtain ⟨x, hx1, hx2, _⟩ := step i (by omega)
      rw [List.getElem?_eq_getElem h1, Option.some.injEq] at hx2
      rw [List.getElem?_eq_getElem (by simp [hsz]; omega), Option.some.injEq] at hx1
      simp only [List.getElem_map, hx1, hx2, g]
  simp only [Prod.mk.injEq] at hx
  obtain ⟨rfl, rfl⟩ := hx
  refine ⟨cs.toList.map g, ?_, ?_, ?_, by simp [hsz], fun x hx => ?_⟩
  · rw [← hcs]
  · rw [hxs]; simp [List.map_map, Function.comp_def]
  · rw [hxs]; simp
  · obtain ⟨v, hv, rfl⟩ := List.mem_map.mp hx
    obtain ⟨i, hi, rfl⟩ := List.getElem_of_mem hv
    obtain ⟨x, hx1, _, hx3⟩ := step i (by simpa [hsz] using hi)
    rw [List.getElem?_eq_getElem hi, Option.some.injEq] at hx1
    rw [hx1]
    exact hx3

/-- An array of words, shut. -/
theorem shut_words {n : Nat} {e : TypeId} (ht : P.underlying t = some (.array n e)) (he : P.underlying e = some (.int .u64)) (hc : P.cellsOf t = n) (hce : P.cellsOf e = 1) {ws : List Int} (hl : ws.length = n) (hw : u64s ws) :
    DataW.Trod enc P w base spare held t (.agg (ws.map (Value.int .u64)).toArray) (.agg (ws.map fun x => .lit (.int .u64 x))) [] := by
  refine ⟨2, ?_⟩
  have hm : (List.range n).mapM (fun i => DataW.trod enc P w base spare held 1 e (((ws.map (Value.int .u64)).drop (i * P.cellsOf e)).take (P.cellsOf e))) = some ((List.range n).map fun i => ((DataW.lit (.int .u64 (ws.getD i 0)) : DataW H), ([] : List MemPlace))) := by
    refine mapM_some_of_forall _ fun i hi => ?_
    have hi' : i < ws.length := by simpa [hl] using hi
    rw [hce, Nat.mul_one]
    have e1 : ((ws.map (Value.int .u64)).drop i).take 1 = [.int .u64 (ws.getD i 0)] := by
      rw [List.drop_eq_getElem_cons (by simpa using hi')]
      simp [hi']
    rw [e1]
    have : (Lit.int .u64 (ws.getD i 0)).wf = true := u64_wf (hw _ (by simp [hi']))
    generalize ws.getD i 0 = z at this
    unfold DataW.trod
    simp [he, this]
  unfold DataW.trod
  rw [ht]
  have e2 : (Value.agg (ws.map (Value.int .u64)).toArray).cells.toList = ws.map (Value.int .u64) := by simp [Value.cells]
  rw [e2]
  have e3 : (ws.map (Value.int .u64)).length = P.cellsOf t := by simp [hl, hc]
  have e4 : ((List.range n).map fun i => ((DataW.lit (.int .u64 (ws.getD i 0)) : DataW H), ([] : List MemPlace))) = ws.map fun x => (DataW.lit (.int .u64 x), []) := by
    apply List.ext_getElem
    · simp [hl]
    · intro i h1 h2
      have : i < ws.length := by simpa using h2
      simp [this]
  split
  all_goals first
    | (rename_i heq; cases heq; done)
    | skip
  all_goals simp_all

/-- 'post', where the memory that was there has not turned. -/
theorem post_of_below {f : Func} {s : ChangeSpec} {apart fresh handsOn again : Bool} {args : Array Value} {v : Value} {ds gs : List (DataW H)} {before pa pv : List MemPlace}
    (hW : DataW.Whole enc P f.params.toList s.vars apart W args.toList ds gs before)
    (hres : ∀ (b : Nat) (sp : Nat → Bool) (hd : Bool), DataW.TrodAll enc P W' b sp hd f.resultTypes.toList (v.resultList f.resultTypes.size) (s.fn H (ds ++ gs)).results [])
    (hargs : ∀ sp : Nat → Bool, (∀ p ∈ before, sp p.block = true) → DataW.TrodAll enc P W' 0 sp true f.params.toList args.toList (s.fn H (ds ++ gs)).args pa)
    (hvars : ∀ sp : Nat → Bool, (∀ p ∈ before, sp p.block = true) → DataW.TrodVars enc P W' sp s.vars (s.fn H (ds ++ gs)).vars pv)
    (hps : before = pa ++ pv) (hb : Below W.heap.size W W')
    (hok : ∀ (j : Nat) (t : TypeId) (r : Value), f.resultTypes[j]? = some t → (v.resultList f.resultTypes.size)[j]? = some r → Value.okWide P W' .any 0 t r) :
    s.post enc P f apart fresh handsOn again W args v W' := by
  have hold : ∀ p ∈ before, (fun b => decide (b < W.heap.size)) p.block = true := fun p hp => by simpa using hW.lt p hp
  have hlt := fun p hp => hW.lt p hp
  refine ⟨ds, gs, before, [], pa, pv, hW, hres _ _ _, hargs _ hold, hvars _ hold, hb.frame _, fun _ => ?_⟩
  obtain ⟨_, _, _, _, _, hz, hn⟩ := hW
  refine ⟨hok, _, _, ([] ++ pa) ++ pv, ⟨[] ++ pa, pv, trodAll_append (hargs _ (fun _ _ => rfl)) (hres _ _ _), hvars _ (fun _ _ => rfl), rfl, ?_, ?_⟩, ?_⟩
  · intro b off hp
    have hp' : MemPlace.cell b off ∈ before := by rw [hps]; simpa using hp
    rw [hb.frozen (show (⟨b, off, none⟩ : Addr).block < W.heap.size from hlt _ hp')]
    exact hz b off hp'
  · intro ha
    have := hn ha
    rw [hps] at this
    simpa using this
  · intro p hp _
    rw [hps]
    simpa using hp

end
end Go.Sym
