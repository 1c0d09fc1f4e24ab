/- Symbolic runs of straight Go code over the model: a function's results; its summary. -/
import Derived.Test.YtdjdbacpokclpaaSymO
import Derived.Tactics
import Derived.Shelf.Abstract
namespace Go.Sym
section
variable {P : Program} {Φ : Nat → List Int → List Int} {ρ : Nat → Int} {β : Nat → Nat × Nat} {w : World} {s : Summ} {al : Option Nat} {xs : List AV} {tbl : List (Nat × Summ)} {Ev : Env} {a : Act} {st : St} {kin : List K}

def rvSem (tmps : Array Value) : ResultVar → Sem Value
  | .tmp t => pure (tmps.getD t undef)
  | .cell a t => do loadVar t (← asAddr (tmps.getD a undef))

theorem results_rv (fn : Func) (tmps : Array Value) : results fn tmps = (fn.results.mapM (rvSem tmps) >>= fun vs => pure (if h : vs.size = 1 then vs[0] else .tuple vs)) := by
  have e : rvSem tmps = (fun | .tmp t => pure (tmps.getD t undef) | .cell a t => (do loadVar t (← asAddr (tmps.getD a undef)) : Sem Value)) := by
    funext r
    cases r <;> rfl
  rw [e]
  rfl

theorem rv_run (hG : Good Ev st.slots st.mem ρ β a w) {r : ResultVar} {sv : SV} (h : resSV P st r = some sv) : (rvSem a.tmps r).run P w = .ok (sv.den ρ β) w := by
  cases r with
  | tmp t =>
    have := (hG.sok t sv h).1
    simp only [rvSem, this]
    rfl
  | cell t ty =>
    simp only [resSV] at h
    split at h
    case h_2 => cases h
    rename_i r o hx
    have hx' := (hG.sok t _ hx).1
    simp only [SV.den, S.den] at hx'
    have hx2 : a.tmps[t]?.getD undef = Value.pointer (some ⟨(β r).1, (β r).2 + o, none⟩) := by simpa using hx'
    split at h
    · rename_i cs hcs hag
      split at h
      · rename_i n hn
        simp only [Option.map_eq_some_iff] at h
        obtain ⟨xs, hxs, rfl⟩ := h
        obtain ⟨h1, h2, h3⟩ := window_spec hxs
        have hrun : (loadCells ⟨(β r).1, (β r).2 + o, none⟩ n).run P w = .ok ((xs.map (S.den ρ β)).toArray) w := by
          have := run_loadCells_list (P := P) (w := w) ⟨(β r).1, (β r).2 + o, none⟩ (xs.map (S.den ρ β)) (fun j v hj => by
            rw [List.getElem?_map, Option.map_eq_some_iff] at hj
            obtain ⟨s, hs, rfl⟩ := hj
            rw [addr_add, Nat.add_assoc]
            exact hG.mok.cell r cs hcs (o + j) s (h3 j s hs))
          simpa [h1] using this
        simp [rvSem, hx2, asAddr, loadVar, isAggB_run hag, sizeB_run hn, hrun, SV.den]
      · cases h
    · rename_i cs hcs hag
      simp only [Option.map_eq_some_iff] at h
      obtain ⟨s, hs, rfl⟩ := h
      have hc := hG.mok.cell r cs hcs o s hs
      simp [rvSem, hx2, asAddr, loadVar, isAggB_run hag, hc, SV.den]
    · cases h

theorem results_run (hG : Good Ev st.slots st.mem ρ β a w) {fn : Func} {rs : List ResultVar} (hrs : fn.results = rs.toArray) (hl : rs.length ≤ 2) {svs : List SV} (h : rs.mapM (resSV P st) = some svs) :
    (results fn a.tmps).run P w = .ok (oneOrTuple (svs.map (SV.den ρ β))) w := by
  rw [results_rv, hrs]
  match rs, h, hl with
  | [], h, _ => simp at h; subst h; simp [oneOrTuple]
  | [r], h, _ =>
    simp only [List.mapM_cons, List.mapM_nil, Option.pure_def, Option.bind_eq_bind, Option.bind_some, Option.bind_eq_some_iff] at h
    obtain ⟨v, hv, h⟩ := h
    cases h
    simp [oneOrTuple, rv_run hG hv]
  | [r1, r2], h, _ =>
    simp only [List.mapM_cons, List.mapM_nil, Option.pure_def, Option.bind_eq_bind, Option.bind_some, Option.bind_eq_some_iff] at h
    obtain ⟨v1, hv1, x, ⟨v2, hv2, hx⟩, h⟩ := h
    cases hx
    cases h
    simp [oneOrTuple, rv_run hG hv1, rv_run hG hv2]

theorem countSlc_zero : ∀ {res : List RK}, countSlc res = 0 → ∀ (j : Nat) n, res[j]? ≠ some (.slc n)
  | [], _, j, n, h => by simp at h
  | k :: res, hc, 0, n, h => by
    simp at h; subst h
    simp [countSlc] at hc
  | k :: res, hc, j + 1, n, h => by
    have : countSlc res = 0 := by cases k <;> simp [countSlc] at hc <;> exact hc
    exact countSlc_zero this j n (by simpa using h)

theorem nb_exists (β : Nat → Nat × Nat) : ∀ {res : List RK} {svs : List SV}, countSlc res ≤ 1 → ∃ nb, ∀ (j : Nat) n r o l c, res[j]? = some (.slc n) → svs[j]? = some (.s (.slc r o l c)) → (β r).1 = nb
  | [], svs, _ => ⟨0, fun j n r o l c h => by simp at h⟩
  | k :: res, [], _ => ⟨0, fun j n r o l c _ h => by simp at h⟩
  | k :: res, sv :: svs, hc => by
    by_cases hk : ∃ n, k = .slc n
    · obtain ⟨n, rfl⟩ := hk
      have h0 : countSlc res = 0 := by simp only [countSlc] at hc; omega
      refine ⟨match sv with | .s (.slc r _ _ _) => (β r).1 | _ => 0, fun j n' r o l c h1 h2 => ?_⟩
      cases j with
      | zero => simp at h2; subst h2; rfl
      | succ j => exact absurd (by simpa using h1) (countSlc_zero h0 j n')
    · have h1 : countSlc res ≤ 1 := by
        cases k <;> simp only [countSlc] at hc <;> first | exact hc | omega
      obtain ⟨nb, hnb⟩ := nb_exists β (svs := svs) h1
      refine ⟨nb, fun j n r o l c g1 g2 => ?_⟩
      cases j with
      | zero => simp at g1; exact absurd ⟨n, g1⟩ hk
      | succ j => exact hnb j n r o l c (by simpa using g1) (by simpa using g2)

theorem resOuts_spec (hk : ∀ i k, (st.full kin).kd i = some k → k.holds (ρ i)) (hS : Start s al xs w) (hb : ∀ r, r < s.args.length → β r = beta0 xs r)
    (hz : ∀ r, (alook st.mem r).isSome = true → s.args.length ≤ r → (β r).2 = 0) :
    ∀ {res : List RK} {svs : List SV} {es : List E}, resOuts s al (st.full kin) res svs = some es →
      holdsAll (kindsOf res) (es.map (E.den ρ)) ∧
      (∀ nb, (∀ (j : Nat) n r o l c, res[j]? = some (RK.slc n) → svs[j]? = some (SV.s (.slc r o l c)) → (β r).1 = nb) → resVals xs nb res (es.map (E.den ρ)) = svs.map (SV.den ρ β)) ∧
      (∀ ws, freshOf res (es.map (E.den ρ)) = some ws → ∃ (j n r : Nat) (cs : List S) (es' : List E), res[j]? = some (RK.slc n) ∧ svs[j]? = some (SV.s (.slc r 0 n n)) ∧ s.args.length ≤ r ∧ alook st.mem r = some cs ∧ words (st.full kin) cs = some es' ∧ ws = es'.map (E.den ρ)) := by
  intro res
  induction res with
  | nil =>
    intro svs es h
    cases svs with
    | nil => simp only [resOuts, Option.some.injEq] at h; subst h; exact ⟨trivial, fun nb _ => rfl, fun ws hw => by simp [freshOf] at hw⟩
    | cons _ _ => simp [resOuts] at h
  | cons k res ih =>
    intro svs es h
    cases svs with
    | nil => simp [resOuts] at h
    | cons sv svs =>
      simp only [resOuts] at h
      split at h
      case h_2 => cases h
      rename_i ea eb ha hbs
      simp only [Option.some.injEq] at h
      subst h
      obtain ⟨i1, i2, i3⟩ := ih hbs
      have i2' : ∀ nb, (∀ (j : Nat) n r o l c, (k :: res)[j]? = some (RK.slc n) → (sv :: svs)[j]? = some (SV.s (.slc r o l c)) → (β r).1 = nb) → resVals xs nb res (eb.map (E.den ρ)) = svs.map (SV.den ρ β) :=
        fun nb h => i2 nb fun j n r o l c g1 g2 => h (j + 1) n r o l c (by simpa using g1) (by simpa using g2)
      have i3' : ∀ ws, freshOf res (eb.map (E.den ρ)) = some ws → ∃ (j n r : Nat) (cs : List S) (es' : List E), (k :: res)[j]? = some (RK.slc n) ∧ (sv :: svs)[j]? = some (SV.s (.slc r 0 n n)) ∧ s.args.length ≤ r ∧ alook st.mem r = some cs ∧ words (st.full kin) cs = some es' ∧ ws = es'.map (E.den ρ) := fun ws hw => by
        obtain ⟨j, n, r, cs, es', g1, g2, g3⟩ := i3 ws hw
        exact ⟨j + 1, n, r, cs, es', by simpa using g1, by simpa using g2, g3⟩
      unfold resOut at ha
      split at ha
      · split at ha
        case isFalse => cases ha
        rename_i hif
        obtain ⟨rfl, hke⟩ := hif
        cases ha
        refine ⟨⟨kdE_holds hk hke, i1⟩, fun nb h => ?_, fun ws hw => i3' ws (by simpa [freshOf] using hw)⟩
        have g := i2' nb h
        simp only [List.cons_append, List.nil_append, List.map_cons, resVals, List.getD_cons_zero, List.drop_succ_cons, List.drop_zero, g]
        rfl
      · split at ha
        case isFalse => cases ha
        rename_i hke
        cases ha
        refine ⟨⟨kdE_holds hk hke, i1⟩, fun nb h => ?_, fun ws hw => i3' ws (by simpa [freshOf] using hw)⟩
        have g := i2' nb h
        simp only [List.cons_append, List.nil_append, List.map_cons, resVals, List.getD_cons_zero, List.drop_succ_cons, List.drop_zero, g]
        rfl
      · split at ha
        case isFalse => cases ha
        rename_i hke
        cases ha
        refine ⟨⟨kdE_holds hk hke, i1⟩, fun nb h => ?_, fun ws hw => i3' ws (by simpa [freshOf] using hw)⟩
        have g := i2' nb h
        simp only [List.cons_append, List.nil_append, List.map_cons, resVals, List.getD_cons_zero, List.drop_succ_cons, List.drop_zero, g]
        rfl
      · rename_i i r o
        split at ha
        case h_2 => cases ha
        rename_i n hn
        by_cases hif : r = (if al = some i then s.wr.getD i else i) ∧ o = 0 ∧ r < s.args.length
        case neg => rw [if_neg hif] at ha; cases ha
        rw [if_pos hif] at ha
        obtain ⟨h1, h2, h3⟩ := hif
        cases ha
        refine ⟨i1, fun nb h => ?_, fun ws hw => i3' ws (by simpa [freshOf] using hw)⟩
        have g := i2' nb h
        simp only [List.nil_append, List.map_cons, resVals, g]
        congr 1
        subst h2
        simp only [SV.den, S.den, Nat.add_zero]
        rw [hb r h3]
        obtain ⟨x, hx, hok⟩ := hS.avs.get i _ hn
        obtain ⟨b, off, ws, rfl, _, _, _⟩ := ptr_inv hok
        have hpi : placeAt xs i = some (b, off, ws.length) := by simp [placeAt, hx, AV.place]
        have e0 : (xs[i]?).bind AV.place = some (b, off, ws.length) := hpi
        rw [e0]
        have hbeta : beta0 xs r = (b, off) := by
          subst h1
          split
          · rename_i hai
            rcases hS.alias with hq | ⟨i', j', n', p, q, hwi, hq, hji, hi, hj', hpp, hqq, e1, e2⟩
            · rw [hq] at hai; cases hai
            · rw [hq] at hai
              cases hai
              rw [hwi]
              simp only [Option.getD_some]
              rw [hpi] at hqq
              cases hqq
              obtain ⟨p1, p2, p3⟩ := p
              simp only at e1 e2
              subst e1 e2
              simp [beta0, hpp]
          · simp [beta0, hpi]
        rw [hbeta]
      · rename_i n r o len cap0
        split at ha
        case isFalse => cases ha
        rename_i hif
        obtain ⟨ho0, hl0, hc0, hr⟩ := hif
        subst ho0 hc0 hl0
        split at ha
        case h_2 => cases ha
        rename_i cs hcs
        split at ha
        case isFalse => cases ha
        rename_i hlen
        obtain ⟨w1, w2, w3, _⟩ := words_spec (β := β) hk ha
        have hl : (ea.map (E.den ρ)).length = len := by simp [w1, hlen]
        refine ⟨?_, fun nb h => ?_, fun ws hw => ?_⟩
        · simp only [kindsOf, List.map_append]
          refine holdsAll_append ?_ i1
          have := holdsAll_u64s w3
          rwa [hl] at this
        · have g := i2' nb h
          have hz' : (β r).2 = 0 := hz r (by rw [show alook st.mem r = some cs from hcs]; rfl) hr
          simp only [List.map_append, resVals, List.map_cons]
          rw [List.drop_append_of_le_length (by omega), List.drop_of_length_le (by omega), List.nil_append, g]
          congr 1
          have := h 0 len r 0 len len rfl rfl
          simp [SV.den, S.den, hz', this]
        · simp only [freshOf, List.map_append, Option.some.injEq] at hw
          rw [List.take_append_of_le_length (by omega), ← hl, List.take_length] at hw
          exact ⟨0, len, r, cs, ea, rfl, rfl, hr, hcs, ha, hw.symm⟩
      · rename_i n ys
        split at ha
        case isFalse => cases ha
        rename_i hlen
        obtain ⟨w1, w2, w3, _⟩ := words_spec (β := β) hk ha
        have hl : (ea.map (E.den ρ)).length = n := by simp [w1, hlen]
        refine ⟨?_, fun nb h => ?_, fun ws hw => i3' ws ?_⟩
        · simp only [kindsOf, List.map_append]
          refine holdsAll_append ?_ i1
          have := holdsAll_u64s w3
          rwa [hl] at this
        · have g := i2' nb h
          simp only [List.map_append, resVals, List.map_cons]
          rw [List.drop_append_of_le_length (by omega), List.take_append_of_le_length (by omega), List.drop_of_length_le (by omega), List.take_of_length_le (by omega), List.nil_append, g]
          congr 1
          simp only [SV.den, w2]
        · simp only [freshOf, List.map_append] at hw
          rwa [List.drop_append_of_le_length (by omega), ← hl, List.drop_length, List.nil_append] at hw
      · cases ha

end
end Go.Sym
