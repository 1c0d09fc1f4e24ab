/- Symbolic runs of straight Go code over the model: a function's summary holds if each way through it comes to it. -/
import Derived.Test.YtdjdbacpokclpaaSymQ
namespace Go.Sym
section
variable {P : Program} {Φ : Nat → List Int → List Int} {ρ : Nat → Int} {β : Nat → Nat × Nat} {w : World} {s : Summ} {al : Option Nat} {xs : List AV} {tbl : List (Nat × Summ)} {st : St} {kin : List K} {sz : Nat}

theorem resOuts_kinds (hk : ∀ i k, (st.full kin).kd i = some k → k.holds (ρ i)) : ∀ {res : List RK} {svs : List SV} {es : List E}, resOuts s al (st.full kin) res svs = some es → holdsAll (kindsOf res) (es.map (E.den ρ))
  | [], [], es, h => by simp only [resOuts, Option.some.injEq] at h; subst h; trivial
  | [], _ :: _, es, h => by simp [resOuts] at h
  | _ :: _, [], es, h => by simp [resOuts] at h
  | k :: res, sv :: svs, es, h => by
    simp only [resOuts] at h
    split at h
    case h_2 => cases h
    rename_i ea eb ha hbs
    simp only [Option.some.injEq] at h
    subst h
    have i1 := resOuts_kinds hk hbs
    have row : ∀ {cs : List S} {n : Nat}, words (st.full kin) cs = some ea → cs.length = n → holdsAll (List.replicate n (.i .u64) ++ kindsOf res) ((ea ++ eb).map (E.den ρ)) := fun hw hn => by
      obtain ⟨w1, _, w3, _⟩ := words_spec (β := fun _ => (0, 0)) hk hw
      rw [List.map_append]
      refine holdsAll_append ?_ i1
      have := holdsAll_u64s w3
      rwa [List.length_map, w1, hn] at this
    unfold resOut at ha
    split at ha
    · split at ha
      case isFalse => cases ha
      rename_i hif
      cases ha
      exact ⟨kdE_holds hk hif.2, i1⟩
    · split at ha
      case isFalse => cases ha
      rename_i hif
      cases ha
      exact ⟨kdE_holds hk hif, i1⟩
    · split at ha
      case isFalse => cases ha
      rename_i hif
      cases ha
      exact ⟨kdE_holds hk hif, i1⟩
    · rename_i i r o
      split at ha
      case h_2 => cases ha
      by_cases hif : r = (if al = some i then s.wr.getD i else i) ∧ o = 0 ∧ r < s.args.length
      · rw [if_pos hif] at ha; cases ha; exact i1
      · rw [if_neg hif] at ha; cases ha
    · rename_i n r o len cap
      split at ha
      case isFalse => cases ha
      split at ha
      case h_2 => cases ha
      split at ha
      case isFalse => cases ha
      rename_i hlen
      exact row ha hlen
    · rename_i n ys
      split at ha
      case isFalse => cases ha
      rename_i hlen
      exact row ha hlen
    · cases ha

theorem wrOuts_spec (hk : ∀ i k, (st.full kin).kd i = some k → k.holds (ρ i)) {es : List E} (h : wrOuts s (st.full kin) = some es) :
    es.length = wrLen s ∧ u64s (es.map (E.den ρ)) ∧ ∀ i, s.wr = some i → ∃ cs, alook st.mem i = some cs ∧ cs.length = wrLen s ∧ cs.map (S.den ρ β) = (es.map (E.den ρ)).map (Value.int .u64) := by
  unfold wrOuts at h
  split at h
  · rename_i hw
    cases h
    exact ⟨by simp [wrLen, hw], by intro x hx; simp at hx, fun i hi => by rw [hw] at hi; cases hi⟩
  · rename_i i hw
    split at h
    case h_2 => cases h
    rename_i cs hcs
    split at h
    case isFalse => cases h
    rename_i hlen
    obtain ⟨w1, w2, w3, _⟩ := words_spec (β := β) hk h
    exact ⟨by omega, w3, fun i' hi => by rw [hw] at hi; cases hi; exact ⟨cs, hcs, hlen, w2⟩⟩

theorem leafOf_inv {rs : List ResultVar} {l : Leaf} (h : leafOf P s al kin rs st = some l) :
    ∃ svs ea eb, rs.mapM (resSV P st) = some svs ∧ wrOuts s (st.full kin) = some ea ∧ resOuts s al (st.full kin) s.res svs = some eb ∧ countSlc s.res ≤ 1 ∧ l = { tr := st.trace, asr := st.asr, outs := ea ++ eb } := by
  unfold leafOf at h
  split at h
  · cases h
  · rename_i svs hsvs
    split at h
    · rename_i ea eb ha hb
      split at h
      · rename_i hc; cases h; exact ⟨svs, ea, eb, hsvs, ha, hb, hc, rfl⟩
      · cases h
    · cases h

theorem leaf_kinds (hk : ∀ i k, (st.full kin).kd i = some k → k.holds (ρ i)) {rs : List ResultVar} {l : Leaf} (h : leafOf P s al kin rs st = some l) : holdsAll s.outKinds (l.outs.map (E.den ρ)) := by
  obtain ⟨svs, ea, eb, _, h2, h3, _, rfl⟩ := leafOf_inv h
  obtain ⟨w1, w3, _⟩ := wrOuts_spec (ρ := ρ) (β := fun _ => (0, 0)) hk h2
  simp only [Summ.outKinds, List.map_append]
  refine holdsAll_append ?_ (resOuts_kinds hk h3)
  have := holdsAll_u64s w3
  rwa [List.length_map, w1] at this

theorem leafRun_inv {fuel : Nat} {c : Code} {sz : Nat} {rs : List ResultVar} {ds : List Bool} {l : Leaf} (h : leafRun P tbl s al fuel c sz rs ds = .ok l) :
    ∃ ex st, execCode (kxOf P tbl s sz) fuel c (initSt s al ds) = .ok (ex, st) ∧ (ex = .ret ∨ ex = .normal) ∧ leafOf P s al s.inKinds rs st = some l := by
  unfold leafRun at h
  split at h
  · rename_i ex st hx
    split at h
    · rename_i he
      split at h
      · rename_i l' hl; cases h; exact ⟨ex, st, hx, he, hl⟩
      · cases h
    · cases h
  · cases h
  · cases h

theorem start_exists (hinit : initB s sz = true) (hav : AVs w s.args xs) (hali : aliasOK s xs) (hun : ∀ b o n, wrPlace s xs = some (b, o, n) → unfrozenAt w b o n) : ∃ al ∈ alsOf s, Start s al xs w := by
  cases hwr : s.wr with
  | none => exact ⟨none, by simp [alsOf], hav, hun, .inl rfl, fun i p hi => by rw [hwr] at hi; cases hi⟩
  | some i =>
    simp only [initB, Bool.and_eq_true, hwr] at hinit
    obtain ⟨_, h3⟩ := hinit
    split at h3
    case h_2 => cases h3
    rename_i n hn
    obtain ⟨x, hx, hok⟩ := hav.get i _ hn
    obtain ⟨b, o, ws, rfl, hl, _, _⟩ := ptr_inv hok
    have hp : placeAt xs i = some (b, o, ws.length) := by simp [placeAt, hx, AV.place]
    obtain ⟨al0, h0⟩ := hali i _ hwr hp
    by_cases hj : ∃ j q, al0 = some j ∧ j ≠ i ∧ placeAt xs j = some q
    · obtain ⟨j, q, rfl, hji, hq⟩ := hj
      obtain ⟨e1, e2, e3⟩ := (h0 j q hji hq).1 rfl
      rw [hn] at e3
      have hjl : j < s.args.length := (List.getElem?_eq_some_iff.mp e3).1
      refine ⟨some j, ?_, hav, hun, .inr ⟨i, j, n, _, q, hwr, rfl, hji, hn, e3, hp, hq, e1, e2⟩, fun i' p hi hp' j' q' hj' hq' hne => ?_⟩
      · simp only [alsOf, hwr, List.mem_cons, List.mem_map, List.mem_filter, List.mem_range, Bool.and_eq_true, bne_iff_ne, ne_eq, beq_iff_eq]
        exact .inr ⟨j, ⟨hjl, hji, by rw [e3, hn]⟩, rfl⟩
      · rw [hwr] at hi
        cases hi
        rw [hp] at hp'
        cases hp'
        exact (h0 j' q' hj' hq').2 hne
    · refine ⟨none, by simp [alsOf], hav, hun, .inl rfl, fun i' p hi hp' j' q' hj' hq' _ => ?_⟩
      rw [hwr] at hi
      cases hi
      rw [hp] at hp'
      cases hp'
      exact (h0 j' q' hj' hq').2 fun e => hj ⟨j', q', e, hj', hq'⟩

theorem Keeps.mono {w w' : World} {S1 S2 : Nat → Nat → Prop} (h : Keeps w w' S1) (m : ∀ b o, S1 b o → S2 b o) : Keeps w w' S2 :=
  ⟨h.os, h.tape, h.output, h.size, fun b hb => by
    rcases h.blk b hb with e | ⟨c, c', t, fr, h1, h2, h3, h4⟩
    · exact .inl e
    · exact .inr ⟨c, c', t, fr, h1, h2, h3, fun j hj => h4 j fun hs => hj (m b j hs)⟩⟩

theorem summ_core {f : Nat} {fn : Func} {c : Code} {F : List Int → List Int} (hf : P.funcs[f]? = some fn) (hname : (fn.name == "runtime.NumGoroutine") = false) (hb : fn.body = some c)
    (hinit : initB s fn.ntmps = true) (rs : List ResultVar) (hrs : fn.results = rs.toArray) (hrl : rs.length ≤ 2)
    (way : ∀ al ∈ alsOf s, ∀ ins, holdsAll s.inKinds ins → ∃ (ex : Ex) (st : St) (kinF : List K) (ρ0 ρ : Nat → Int) (l : Leaf), (∀ j, j < s.inKinds.length → ρ0 j = ins.getD j 0) ∧ (ex = .ret ∨ ex = .normal) ∧
      leafOf P s al kinF rs st = some l ∧ (∀ i k, kdOf kinF st i = some k → k.holds (ρ i)) ∧ F ins = l.outs.map (E.den ρ) ∧
      ∀ (alen : Nat → Nat) (β0 : Nat → Nat × Nat) (w0 : World) (a : Act) (w : World) (β : Nat → Nat × Nat) (Q : Exit → Act → World → Prop),
        Good ((kxOf P tbl s fn.ntmps).env alen β0 w0 []) (initSt s al []).slots (initSt s al []).mem ρ0 β a w → (∀ a' w' β', Good ((kxOf P tbl s fn.ntmps).env alen β0 w0 []) st.slots st.mem ρ β' a' w' → Q ex.to a' w') → c.wp P Q a w) : SummOK P f s F := by
  refine ⟨fun ins hins => ?_, fun xs w hav hali hun a o vs ats K Q ho hargs hK => ?_⟩
  · obtain ⟨ex, st, kinF, ρ0, ρ, l, _, _, h4, h5, h6, _⟩ := way none (by simp [alsOf]) ins hins
    rw [h6]
    exact leaf_kinds h5 h4
  obtain ⟨al, hal, hS⟩ := start_exists hinit hav hali hun
  obtain ⟨ex, st, kinF, ρ0, ρ, l, hρ, h3, h4, h5, h6, hwp⟩ := way al hal (xs.flatMap AV.ints) hav.holds
  have hkd : ∀ i k, (st.full kinF).kd i = some k → k.holds (ρ i) := h5
  have hexec : execOp a.eval o = callFunc f (argVals s.args xs).toArray := by
    unfold execOp
    rw [ho]
    have : vs.map a.eval = (argVals s.args xs).toArray := by rw [← hargs]
    show callFunc f (#[] ++ vs.map a.eval ++ #[]) = _
    simp [this]
  unfold Oper.wp
  rw [hexec, Go.Proofs.enters_of hf hname hb, Oper.upon_enter]
  refine calls_of_wp hf hb ?_
  refine hwp (alen0 xs) (beta0 xs) w _ w (beta0 xs) _ (good_start hS hinit (hv_of hav hρ) [] []) fun a' w' β' hG => ?_
  obtain ⟨svs, ea, eb, k1, k2, k3, k4, rfl⟩ := leafOf_inv h4
  have hb' : ∀ r, r < s.args.length → β' r = beta0 xs r := fun r hr => hG.args r hr
  have hz : ∀ r, (alook st.mem r).isSome = true → s.args.length ≤ r → w.heap.size ≤ (β' r).1 ∧ (β' r).2 = 0 := fun r h1 h2 => hG.fresh r h1 h2
  have hres := results_run hG hrs hrl k1
  obtain ⟨r1, r2, r3⟩ := resOuts_spec (β := β') hkd hS hb' (fun r g1 g2 => (hz r g1 g2).2) k3
  obtain ⟨w1, w3, w4⟩ := wrOuts_spec (ρ := ρ) (β := β') hkd k2
  obtain ⟨nb, hnb⟩ := nb_exists β' (svs := svs) k4
  have hF1 : F (xs.flatMap AV.ints) = ea.map (E.den ρ) ++ eb.map (E.den ρ) := by rw [h6]; simp
  have hea : (ea.map (E.den ρ)).length = wrLen s := by simp [w1]
  have hdrop : (F (xs.flatMap AV.ints)).drop (wrLen s) = eb.map (E.den ρ) := by
    rw [hF1, List.drop_append_of_le_length (by omega), List.drop_of_length_le (by omega), List.nil_append]
  have hpost : CallPost s xs (F (xs.flatMap AV.ints)) w w' nb := by
    refine ⟨hG.keeps.mono fun b off hb => ?_, fun b off n hp => ?_, fun ws hws => ?_⟩
    · obtain ⟨r, hr, _, e1, e2, e3⟩ := hb
      have hr' : s.wr = some r := by simpa [Kx.env, kxOf] using hr
      have e1' : b = (beta0 xs r).1 := e1
      have e2' : (beta0 xs r).2 ≤ off := e2
      have e3' : off < (beta0 xs r).2 + alen0 xs r := e3
      simp only [beta0, alen0] at e1' e2' e3'
      have hwp2 : wrPlace s xs = placeAt xs r := by simp [wrPlace, hr', placeAt]
      rw [hwp2]
      cases hpl : placeAt xs r with
      | none => rw [hpl] at e1' e2' e3'; simp only at e3'; omega
      | some p =>
        obtain ⟨p1, p2, p3⟩ := p
        rw [hpl] at e1' e2' e3'
        exact ⟨e1', e2', e3'⟩
    · have hi : ∃ i, s.wr = some i ∧ placeAt xs i = some (b, off, n) := by
        unfold wrPlace at hp
        cases hw : s.wr with
        | none => rw [hw] at hp; cases hp
        | some i => rw [hw] at hp; exact ⟨i, rfl, hp⟩
      obtain ⟨i, hi, hpl⟩ := hi
      obtain ⟨cs, hcs, hcl, hcd⟩ := w4 i hi
      have hin := hinit
      simp only [initB, Bool.and_eq_true, hi] at hin
      obtain ⟨_, h3⟩ := hin
      split at h3
      case h_2 => cases h3
      rename_i m hm
      obtain ⟨x, hx, hok⟩ := hav.get i _ hm
      obtain ⟨b', o', ws, rfl, hl, _, _⟩ := ptr_inv hok
      have hpe : placeAt xs i = some (b', o', ws.length) := by simp [placeAt, hx, AV.place]
      rw [hpe] at hpl
      simp only [Option.some.injEq, Prod.mk.injEq] at hpl
      obtain ⟨rfl, rfl, rfl⟩ := hpl
      have hwl : wrLen s = m := by simp [wrLen, hi, hm]
      have htake : (F (xs.flatMap AV.ints)).take ws.length = ea.map (E.den ρ) := by
        rw [hF1, List.take_append_of_le_length (by omega), List.take_of_length_le (by omega)]
      rw [htake]
      have hbi : β' i = (b', o') := by
        rw [hb' i (List.getElem?_eq_some_iff.mp hm).1]
        simp [beta0, hpe]
      intro j x hj
      have : (cs.map (S.den ρ β'))[j]? = some (Value.int .u64 x) := by rw [hcd, List.getElem?_map, hj]; rfl
      rw [List.getElem?_map, Option.map_eq_some_iff] at this
      obtain ⟨sx, hsx, hd⟩ := this
      have := hG.mok.cell i cs hcs j sx hsx
      rw [hbi, hd] at this
      exact this
    · rw [hdrop] at hws
      obtain ⟨j, n, r, cs, es', g1, g2, g3, g4, g5, rfl⟩ := r3 ws hws
      have hs : (alook st.mem r).isSome = true := by rw [g4]; rfl
      obtain ⟨z1, z2⟩ := hz r hs g3
      have hn := hnb j n r 0 n n g1 g2
      obtain ⟨v1, v2, v3, _⟩ := words_spec (β := β') hkd g5
      have hblk := hG.blk r hs
      refine ⟨by omega, by omega, fun d x hd => ?_, fun d hd => ?_⟩
      · have : (cs.map (S.den ρ β'))[d]? = some (Value.int .u64 x) := by rw [v2, List.getElem?_map, hd]; rfl
        rw [List.getElem?_map, Option.map_eq_some_iff] at this
        obtain ⟨sx, hsx, hde⟩ := this
        have := hG.mok.cell r cs g4 d sx hsx
        rw [z2, hn, hde] at this
        exact this
      · have hwr : (kxOf P tbl s fn.ntmps).cx.writable r = true := by
          simp [Cx.writable, kxOf, g3]
        have := hG.mok.free r cs g4 hwr d (by simp at hd; omega)
        rw [z2, hn] at this
        exact this
  have hfin := hK w' nb hpost
  rw [hdrop, r2 nb hnb] at hfin
  rcases h3 with rfl | rfl
  · exact bodyPost_ret hres hG.dfr hfin
  · exact bodyPost_end hres hG.dfr hfin


theorem summ_ok {f : Nat} {fn : Func} {c : Code} {F : List Int → List Int} {fuel : Nat} (hf : P.funcs[f]? = some fn) (hname : (fn.name == "runtime.NumGoroutine") = false) (hb : fn.body = some c)
    (hmix : P.follows .mixedOrders = true) (htbl : ∀ f s, findS tbl f = some s → SummOK P f s (Φ f)) (hinit : initB s fn.ntmps = true) (rs : List ResultVar) (hrs : fn.results = rs.toArray) (hrl : rs.length ≤ 2)
    (T : Option Nat → CT) (hcov : ∀ al ∈ alsOf s, cover tbl s.inKinds (T al) [] [] = true)
    (hrun : ∀ al ∈ alsOf s, ∀ l ∈ (T al).leaves, ∃ ds, leafRun P tbl s al fuel c fn.ntmps rs ds = .ok l)
    (hmath : ∀ al ∈ alsOf s, ∀ l ∈ (T al).leaves, ∀ (ρ : Nat → Int) ins, holdsAll s.inKinds ins → (∀ j, j < s.inKinds.length → ρ j = ins.getD j 0) → SatTr Φ ρ l.tr →
      (∀ e b, (e, b) ∈ l.asr → (!(e.den ρ == 0)) = b) → F ins = l.outs.map (E.den ρ)) : SummOK P f s F := by
  have way : ∀ al ∈ alsOf s, ∀ ins, holdsAll s.inKinds ins → ∃ l ds ex st, ∃ ρ : Nat → Int, (∀ j, j < s.inKinds.length → ρ j = ins.getD j 0) ∧ execCode (kxOf P tbl s fn.ntmps) fuel c (initSt s al ds) = .ok (ex, st) ∧ (ex = .ret ∨ ex = .normal) ∧
      leafOf P s al s.inKinds rs st = some l ∧ Fits Φ ρ s.inKinds st ∧ F ins = l.outs.map (E.den ρ) := by
    intro al hal ins hins
    have hk0 : ∀ (i : Nat) k, s.inKinds[i]? = some k → k.holds (ins.getD i 0) := fun i k hi => holdsAll_get hins i k hi
    obtain ⟨l, hl, ρ, q1, q2, q3⟩ := cover_ok htbl (T al) [] [] (fun j => ins.getD j 0) (hcov al hal) hk0 (fun x k i hx => by simp at hx) (fun e b hx => by simp at hx)
    obtain ⟨ds, hds⟩ := hrun al hal l hl
    obtain ⟨ex, st, h1, h2, h3⟩ := leafRun_inv hds
    have hlst := h3
    obtain ⟨svs, ea, eb, _, _, _, _, hle⟩ := leafOf_inv hlst
    refine ⟨l, ds, ex, st, ρ, q1, h1, h2, h3, ⟨fun x k i hx => ?_, fun e b hx => ?_, fun i k hi => ?_⟩, hmath al hal l hl ρ ins hins q1 q2 q3⟩
    · exact q2 x k i (by rw [hle]; exact hx)
    · exact q3 e b (by rw [hle]; exact hx)
    · rw [q1 i (List.getElem?_eq_some_iff.mp hi).1]; exact hk0 i k hi
  refine summ_core (tbl := tbl) hf hname hb hinit rs hrs hrl fun al hal ins hins => ?_
  obtain ⟨l, ds, ex, st, ρ, hρ, h2, h3, h4, h5, h6⟩ := way al hal ins hins
  obtain ⟨_, _, hwp⟩ := execCode_ok (ρ := ρ) hmix htbl fuel c (initSt s al ds) ex st h2 (start_stOK hinit ds) h5
  exact ⟨ex, st, s.inKinds, ρ, ρ, l, hρ, h3, h4, fun i k hk => kdOf_ok h5 hk, h6, fun alen β0 w0 a w β Q hG hQ => hwp alen β0 w0 [] a w β Q hG hQ⟩

end
end Go.Sym
