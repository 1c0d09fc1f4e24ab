/- Symbolic runs of straight Go code over the model: pieces of code. -/
import Derived.Test.YtdjdbacpokclpaaSymM
namespace Go.Sym

def execLoop (body : St → R (Ex × St)) : Nat → St → R (Ex × St)
  | 0, _ => .fail 6 0
  | n + 1, st => match body st with
    | .ok (.normal, st') => execLoop body n st'
    | .ok (.exit id, st') => .ok (.exit id, st')
    | .ok (.ret, st') => .ok (.ret, st')
    | .need e => .need e
    | .fail a b => .fail a b

def regN (X : Kx) (ops : Array Oper) (draw : Bool) (st : St) : R (Ex × St) :=
  match execRegion X ops draw st with
  | .ok st' => .ok (.normal, st')
  | .need e => .need e
  | .fail a b => .fail a b

def execRegionM (X : Kx) (ops : Array Oper) (draw : Bool) (st : St) : R St :=
  match execRegion X ops draw { st with dec := [] } with
  | .ok st' => .ok { st' with dec := st.dec }
  | .need e => match mergeTry (regN X ops draw) (regN X ops draw) st e with
    | some sm => .ok sm
    | none => execRegion X ops draw st
  | .fail a b => .fail a b

def execCode (X : Kx) (fuel : Nat) : Code → St → R (Ex × St)
  | .skip, st => .ok (.normal, st)
  | .label _, st => .ok (.normal, st)
  | .region _ ops draw, st => match execRegionM X ops draw st with
    | .ok st' => .ok (.normal, st')
    | .need e => .need e
    | .fail a b => .fail a b
  | .seq x y, st => match execCode X fuel x st with
    | .ok (.normal, st') => execCode X fuel y st'
    | .ok (.exit id, st') => .ok (.exit id, st')
    | .ok (.ret, st') => .ok (.ret, st')
    | .need e => .need e
    | .fail a b => .fail a b
  | .cond c x y, st => match opv st.slots c with
    | some (.s (.bool e)) => match st.decide e with
      | some true => execCode X fuel x st
      | some false => execCode X fuel y st
      | none => match mergeTry (execCode X fuel x) (execCode X fuel y) st e with
        | some sm => .ok (.normal, sm)
        | none => match st.take e with
          | .ok st1 => match st1.decide e with
            | some true => execCode X fuel x st1
            | some false => execCode X fuel y st1
            | none => .fail 7 0
          | .need e => .need e
          | .fail a b => .fail a b
    | _ => .fail 8 0
  | .block id c, st => match execCode X fuel c st with
    | .ok (.exit id', st') => if id' = id then .ok (.normal, st') else .ok (.exit id', st')
    | .ok (.normal, st') => .ok (.normal, st')
    | .ok (.ret, st') => .ok (.ret, st')
    | .need e => .need e
    | .fail a b => .fail a b
  | .loop c, st => execLoop (execCode X fuel c) fuel st
  | .exit id, st => .ok (.exit id, st)
  | .ret, st => .ok (.ret, st)
  | _, _ => .fail 9 0

def Kx.env (X : Kx) (alen : Nat → Nat) (β0 : Nat → Nat × Nat) (w0 : World) (dfr : List Deferred) : Env :=
  { cx := X.cx, sz := X.sz, alen := alen, β0 := β0, w0 := w0, dfr := dfr }

structure StOK (X : Kx) (st : St) : Prop where
  narg : X.cx.narg ≤ st.nr
  none : ∀ r, st.nr ≤ r → alook st.mem r = none
  size : ∀ t sv, alook st.slots t = some sv → t < X.sz

section
variable {X : Kx} {Φ : Nat → List Int → List Int} {ρ : Nat → Int} {ops : Array Oper}

theorem wantedB_ok {st : St} {o : Oper} {wanted : Bool} (h : wantedB ops st o = .ok wanted) (hF : Fits Φ ρ X.kin st) : WantedOK ρ ops st.slots o wanted := by
  unfold wantedB at h
  unfold WantedOK
  cases hg : o.guard with
  | none => rw [hg] at h; cases h; rfl
  | some g =>
    obtain ⟨j, want⟩ := g
    rw [hg] at h
    simp only at h ⊢
    split at h
    · rename_i t ht
      split at h
      · rename_i e he
        split at h
        · rename_i b hb
          cases h
          exact ⟨t, _, ht, he, by simp only [GuardOK]; rw [decide_ok hF hb]⟩
        · cases h
      · rename_i he
        cases h
        exact ⟨t, _, ht, he, rfl⟩
      · cases h
    · cases h

theorem stepOne_ok {st st' : St} {o : Oper} {wanted : Bool} {x : Rec} (h : stepOne X ops st o wanted = .ok (st', x)) (hF : Fits Φ ρ X.kin st') (hn : X.cx.narg ≤ st.nr)
    (hw : WantedOK ρ ops st.slots o wanted) :
    st' = st.put x ∧ x.o = o ∧ x.nr = st.nr ∧ RecOK Φ ρ X.cx X.P X.sz ops st.slots st.mem x := by
  unfold stepOne at h
  split at h
  case isFalse => cases h
  rename_i hd
  have hdst : ∀ d, o.dst = some d → d < X.sz := fun d hod => by simpa [dstOK, hod] using hd
  split at h
  · rename_i hwt
    subst hwt
    split at h
    · rename_i out hout
      cases h
      have hF0 := hF.of_le (put_le st (mkRec ops st o true out))
      refine ⟨rfl, rfl, rfl, ⟨rfl, hdst, fun r off cs hwr => ?_, hw, fun _ => ?_, fun hf => by simp [mkRec] at hf, hn⟩⟩
      · obtain ⟨⟨xs, hxs, _⟩, _⟩ := absOp_wr hout hwr
        simp only [St.view] at hxs
        split at hxs
        · rename_i hc; simpa [mkRec] using hc
        · cases hxs
      · refine ⟨_, rfl, fun r cs hr => ?_, fun i k hk => kdOf_ok hF0 hk, fun e b hb => decide_ok hF0 hb, rfl, put_ins hF, hout⟩
        simp only [St.view] at hr
        split at hr
        · rename_i hc; exact ⟨by simpa [mkRec] using hc, hr⟩
        · cases hr
    · cases h
  · rename_i hwt
    cases h
    have hwf : wanted = false := by simpa using hwt
    subst hwf
    exact ⟨rfl, rfl, rfl, ⟨rfl, hdst, fun r off cs hwr => by simp [mkRec] at hwr, hw, fun hf => by simp [mkRec] at hf, fun _ => rfl, hn⟩⟩

theorem execOps_ok : ∀ (os : List Oper) (st : St) (acc : List Rec) (st' : St) (acc' : List Rec), execOps X ops os st acc = .ok (st', acc') → Fits Φ ρ X.kin st' → X.cx.narg ≤ st.nr →
    ∃ rs, acc' = rs.reverse ++ acc ∧ rs.map (·.o) = os ∧ st'.slots = slotsOf rs st.slots ∧ st'.mem = memOf rs st.mem ∧ RecsOK Φ ρ X.cx X.P X.sz ops st.slots st.mem st.nr rs ∧ st.Le st' ∧ st'.nr = st.nr + rs.length
  | [], st, acc, st', acc', h, _, _ => by
    simp only [execOps] at h
    cases h
    exact ⟨[], rfl, rfl, rfl, rfl, trivial, St.Le.refl st, rfl⟩
  | o :: os, st, acc, st', acc', h, hF, hn => by
    have main : ∀ (st1 st2 : St) (x : Rec) (wanted : Bool), st.Le st1 → st1.slots = st.slots → st1.mem = st.mem → st1.nr = st.nr → wantedB ops st1 o = .ok wanted → stepOne X ops st1 o wanted = .ok (st2, x) → execOps X ops os st2 (x :: acc) = .ok (st', acc') →
        ∃ rs, acc' = rs.reverse ++ acc ∧ rs.map (·.o) = o :: os ∧ st'.slots = slotsOf rs st.slots ∧ st'.mem = memOf rs st.mem ∧ RecsOK Φ ρ X.cx X.P X.sz ops st.slots st.mem st.nr rs ∧ st.Le st' ∧ st'.nr = st.nr + rs.length := by
      intro st1 st2 x wanted hle e1 e2 e3 hwb hst hrest
      have hst2nr : st2.nr = st1.nr + 1 := by
        unfold stepOne at hst
        split at hst
        · split at hst
          · split at hst
            · cases hst; rfl
            · cases hst
          · cases hst; rfl
        · cases hst
      obtain ⟨rs, g1, g2, g3, g4, g5, g6, g7⟩ := execOps_ok os st2 (x :: acc) st' acc' hrest hF (by omega)
      have hF2 := hF.of_le g6
      have hle12 : st1.Le st2 := by
        unfold stepOne at hst
        split at hst
        · split at hst
          · split at hst
            · cases hst; exact put_le _ _
            · cases hst
          · cases hst; exact put_le _ _
        · cases hst
      have hF1 := hF2.of_le hle12
      obtain ⟨k1, k2, k3, k4⟩ := stepOne_ok hst hF2 (by omega) (wantedB_ok hwb hF1)
      subst k1
      refine ⟨x :: rs, by simp [g1], by simp [k2, g2], ?_, ?_, ⟨by rw [← e1, ← e2]; exact k4, by omega, ?_⟩, hle.trans ((put_le st1 x).trans g6), by simp; omega⟩
      · rw [g3, slotsOf_cons, ← e1]; rfl
      · rw [g4, memOf_cons, ← e2]; rfl
      · rw [← e1, ← e2, ← e3]; exact g5
    unfold execOps at h
    split at h
    · rename_i wanted hwb
      split at h
      · rename_i st2 x hst
        exact main st st2 x wanted (St.Le.refl st) rfl rfl rfl hwb hst h
      · cases h
      · cases h
    · split at h
      · rename_i st1 htk
        obtain ⟨t1, t2, t3, t4, _, _⟩ := take_ok htk
        split at h
        · rename_i wanted hwb
          split at h
          · rename_i st2 x hst
            exact main st1 st2 x wanted t1 t2 t3 t4 hwb hst h
          · cases h
          · cases h
        · cases h
        · cases h
      · cases h
      · cases h
    · cases h

/-- What is to be shown of a piece of code. -/
def CodeOK (X : Kx) (ρ : Nat → Int) (c : Code) (st : St) (ex : Ex) (st' : St) : Prop :=
  st.Le st' ∧ StOK X st' ∧ ∀ (alen : Nat → Nat) (β0 : Nat → Nat × Nat) (w0 : World) (dfr : List Deferred) (a : Act) (w : World) (β : Nat → Nat × Nat) (Q : Exit → Act → World → Prop),
    Good (X.env alen β0 w0 dfr) st.slots st.mem ρ β a w → (∀ a' w' β', Good (X.env alen β0 w0 dfr) st'.slots st'.mem ρ β' a' w' → Q ex.to a' w') → c.wp X.P Q a w

theorem stOK_put {st st' : St} {rs : List Rec} (hs : StOK X st) (h1 : st'.slots = slotsOf rs st.slots) (h2 : st'.mem = memOf rs st.mem) (hR : RecsOK Φ ρ X.cx X.P X.sz ops st.slots st.mem st.nr rs) (h3 : st'.nr = st.nr + rs.length) : StOK X st' := by
  refine ⟨by have := hs.narg; omega, fun r hr => ?_, ?_⟩
  · rw [h2]
    have := none_of hR hs.none rs.length (Nat.le_refl _) r (by omega)
    simpa using this
  · rw [h1]
    have gen : ∀ (l : List Rec) (b : List (Nat × SV)), (∀ y ∈ l, ∀ d, y.o.dst = some d → d < X.sz) → (∀ t sv, alook b t = some sv → t < X.sz) → ∀ t sv, alook (slotsOf l b) t = some sv → t < X.sz := by
      intro l
      induction l with
      | nil => intro b _ hb; exact hb
      | cons y l ih =>
        intro b hl hb
        refine ih (putSlot y b) (fun z hz => hl z (by simp [hz])) (fun t sv ht => ?_)
        rw [alook_putSlot] at ht
        split at ht
        · rename_i hdt; exact hl y (by simp) t hdt
        · exact hb t sv ht
    refine gen _ _ (fun y hy d hd => ?_) hs.size
    obtain ⟨j, hj, rfl⟩ := List.getElem_of_mem hy
    exact (hR.at (i := j) (x := rs[j]) (by simp [hj])).1.dst d hd

theorem execRegion_ok (hmix : X.P.follows .mixedOrders = true) (htbl : ∀ f s, findS X.cx.tbl f = some s → SummOK X.P f s (Φ f)) {id : Nat} {draw : Bool} {st st' : St} (h : execRegion X ops draw st = .ok st') (hs : StOK X st) (hF : Fits Φ ρ X.kin st') :
    CodeOK X ρ (.region id ops draw) st .normal st' := by
  unfold execRegion at h
  split at h
  case h_2 => cases h
  case h_3 => cases h
  rename_i st1 acc hex
  have hst : st1 = st' ∧ (draw = true → orderOK acc.reverse = true) := by
    split at h
    · split at h
      · rename_i ho; cases h; exact ⟨rfl, fun _ => ho⟩
      · cases h
    · rename_i hd; cases h; exact ⟨rfl, fun e => absurd e hd⟩
  obtain ⟨rfl, hord⟩ := hst
  obtain ⟨rs, g1, g2, g3, g4, g5, g6, g7⟩ := execOps_ok ops.toList st [] st1 acc hex hF hs.narg
  simp only [List.append_nil] at g1
  refine ⟨g6, stOK_put hs g3 g4 g5 g7, fun alen β0 w0 dfr a w β Q hG hQ => ?_⟩
  have hQ' : ∀ a' w' β', Good (X.env alen β0 w0 dfr) (slotsOf rs st.slots) (memOf rs st.mem) ρ β' a' w' → Q .normal a' w' := fun a' w' β' hG' => hQ a' w' β' (by rw [g3, g4]; exact hG')
  cases draw with
  | false =>
    refine wp_region_list ?_
    rw [← g2]
    exact seq_ok (E := X.env alen β0 w0 dfr) htbl rs st.slots st.mem st.nr a w β g5 hG hs.none hs.size hQ'
  | true =>
    refine wp_region_any hmix ?_
    have ho := hord rfl
    rw [g1, List.reverse_reverse] at ho
    have hlen : ops.size = rs.length := by rw [← Array.length_toList, ← g2, List.length_map]
    refine any_ok (E := X.env alen β0 w0 dfr) htbl g2.symm g5 ho hs.none hs.size hQ' ops.size (Array.replicate ops.size false) a _ β (by simpa using hlen) ?_ ?_ ?_
    · simp
    · intro i o _ hl
      simp only [Array.getD_eq_getD_getElem?, Array.getElem?_replicate] at hl
      split at hl <;> simp at hl
    · rw [sel_none rs 0 (fun j _ _ => by
        simp only [Array.getD_eq_getD_getElem?, Array.getElem?_replicate]
        split <;> rfl)]
      exact hG.drew

theorem stepOne_le {st st' : St} {o : Oper} {wanted : Bool} {x : Rec} (hst : stepOne X ops st o wanted = .ok (st', x)) : st.Le st' := by
  unfold stepOne at hst
  split at hst
  · split at hst
    · split at hst
      · cases hst; exact put_le _ _
      · cases hst
    · cases hst; exact put_le _ _
  · cases hst

theorem execOps_le : ∀ (os : List Oper) (st : St) (acc : List Rec) (st' : St) (acc' : List Rec), execOps X ops os st acc = .ok (st', acc') → st.Le st'
  | [], st, acc, st', acc', h => by
    simp only [execOps] at h
    cases h
    exact St.Le.refl st
  | o :: os, st, acc, st', acc', h => by
    unfold execOps at h
    split at h
    · split at h
      · rename_i st2 x hst
        exact (stepOne_le hst).trans (execOps_le os _ _ _ _ h)
      · cases h
      · cases h
    · split at h
      · rename_i st1 htk
        split at h
        · split at h
          · rename_i st2 x hst
            exact (take_ok htk).1.trans ((stepOne_le hst).trans (execOps_le os _ _ _ _ h))
          · cases h
          · cases h
        · cases h
        · cases h
      · cases h
      · cases h
    · cases h

theorem execRegion_le {draw : Bool} {st st' : St} (h : execRegion X ops draw st = .ok st') : st.Le st' := by
  unfold execRegion at h
  split at h
  case h_2 => cases h
  case h_3 => cases h
  rename_i st1 acc hex
  split at h
  · split at h
    · cases h; exact execOps_le _ _ _ _ _ hex
    · cases h
  · cases h; exact execOps_le _ _ _ _ _ hex

theorem mergeTry_inv {fx fy : St → R (Ex × St)} {st sm : St} {e : E} (h : mergeTry fx fy st e = some sm) :
    ∃ sx sy, fx (stX st e) = .ok (.normal, sx) ∧ fy (stY st sx e) = .ok (.normal, sy) ∧ mergeSt st sx sy e = some sm := by
  unfold mergeTry at h
  split at h
  · rename_i sx hx
    split at h
    · rename_i sy hy
      exact ⟨sx, sy, hx, hy, h⟩
    · cases h
  · cases h

theorem mergeTry_le {fx fy : St → R (Ex × St)} {st sm : St} {e : E} (h : mergeTry fx fy st e = some sm) (hx : ∀ st ex st', fx st = .ok (ex, st') → st.Le st') (hy : ∀ st ex st', fy st = .ok (ex, st') → st.Le st') :
    st.Le sm ∧ ∀ sx sy, fx (stX st e) = .ok (.normal, sx) → fy (stY st sx e) = .ok (.normal, sy) → mergeSt st sx sy e = some sm → (∀ x, x ∈ sx.trace → x ∈ sm.trace) ∧ sx.nr ≤ sm.nr := by
  obtain ⟨sx, sy, h1, h2, h3⟩ := mergeTry_inv h
  obtain ⟨m1, m2, m3, m4, m5, _⟩ := mergeSt_ok h3
  have a1 := hx _ _ _ h1
  have a2 := hy _ _ _ h2
  have b1 : ∀ x, x ∈ sx.trace → x ∈ sm.trace := fun x hx => m5 x (a2.tr x hx)
  have b2 : sx.nr ≤ sm.nr := by rw [m4]; exact a2.nr
  refine ⟨⟨fun x hx => b1 x (a1.tr x hx), fun x hx => by rw [m3]; exact hx, ?_⟩, fun sx' sy' h1' h2' _ => ?_⟩
  · have : st.nr ≤ sx.nr := a1.nr
    omega
  · rw [h1] at h1'; cases h1'
    exact ⟨b1, b2⟩

theorem mergeTry_ok {fx fy : St → R (Ex × St)} {cx cy : Code} {st sm : St} {e : E} (h : mergeTry fx fy st e = some sm) (hs : StOK X st) (hF : Fits Φ ρ X.kin sm)
    (lx : ∀ st ex st', fx st = .ok (ex, st') → st.Le st') (ly : ∀ st ex st', fy st = .ok (ex, st') → st.Le st')
    (kx : ∀ st st', fx st = .ok (.normal, st') → StOK X st → Fits Φ ρ X.kin st' → CodeOK X ρ cx st .normal st')
    (ky : ∀ st st', fy st = .ok (.normal, st') → StOK X st → Fits Φ ρ X.kin st' → CodeOK X ρ cy st .normal st') :
    st.Le sm ∧ StOK X sm ∧ ∀ b, (!(e.den ρ == 0)) = b → ∀ (alen : Nat → Nat) (β0 : Nat → Nat × Nat) (w0 : World) (dfr : List Deferred) (a : Act) (w : World) (β : Nat → Nat × Nat) (Q : Exit → Act → World → Prop),
      Good (X.env alen β0 w0 dfr) st.slots st.mem ρ β a w → (∀ a' w' β', Good (X.env alen β0 w0 dfr) sm.slots sm.mem ρ β' a' w' → Q .normal a' w') → (if b then cx else cy).wp X.P Q a w := by
  obtain ⟨sx, sy, h1, h2, h3⟩ := mergeTry_inv h
  obtain ⟨m1, m2, m3, m4, m5, m6⟩ := mergeSt_ok h3
  obtain ⟨le1, le2⟩ := mergeTry_le h lx ly
  obtain ⟨le3, le4⟩ := le2 sx sy h1 h2 h3
  have hok := m6
  simp only [mergeOK, Bool.and_eq_true, List.all_eq_true] at hok
  obtain ⟨k1, k2⟩ := hok
  have hslot : ∀ t sv, alook sm.slots t = some sv → (∃ x, alook sx.slots t = some x) ∧ ∃ x, alook sy.slots t = some x := fun t sv ht => by
    have := (k1 _ (alook_mem ht)).1
    simp only at this
    split at this
    · rename_i x y hx hy; exact ⟨⟨x, hx⟩, ⟨y, hy⟩⟩
    · cases this
  have hmem : ∀ t sv, alook sm.mem t = some sv → (∃ x, alook sx.mem t = some x) ∧ ∃ x, alook sy.mem t = some x := fun t sv ht => by
    have := (k2 _ (alook_mem ht)).1
    simp only at this
    split at this
    · rename_i x y hx hy; exact ⟨⟨x, hx⟩, ⟨y, hy⟩⟩
    · cases this
  have lx1 := lx _ _ _ h1
  have ly1 := ly _ _ _ h2
  have hnr1 : st.nr ≤ sx.nr := lx1.nr
  have hsX : StOK X (stX st e) := ⟨hs.narg, hs.none, hs.size⟩
  have hsY : StOK X (stY st sx e) := ⟨Nat.le_trans hs.narg hnr1, fun r hr => hs.none r (Nat.le_trans hnr1 hr), hs.size⟩
  cases hb : (!(e.den ρ == 0)) with
  | true =>
    have hFx : Fits Φ ρ X.kin sx := ⟨fun x k i hx => hF.tr x k i (le3 _ hx), fun e' b hx => by
      rw [m1] at hx
      rcases List.mem_cons.mp hx with hx | hx
      · cases hx; exact hb
      · exact hF.asr e' b (by rw [m3]; exact hx), hF.kin⟩
    obtain ⟨a1, a2, a3⟩ := kx _ _ h1 hsX hFx
    refine ⟨le1, ⟨Nat.le_trans a2.narg le4, fun r hr => ?_, fun t sv ht => ?_⟩, fun b hb' alen β0 w0 dfr a w β Q hG hQ => ?_⟩
    · cases hh : alook sm.mem r with
      | none => rfl
      | some cs =>
        obtain ⟨⟨x, hx⟩, _⟩ := hmem r cs hh
        rw [a2.none r (Nat.le_trans le4 hr)] at hx
        cases hx
    · obtain ⟨⟨x, hx⟩, _⟩ := hslot t sv ht
      exact a2.size t x hx
    · subst hb'
      exact a3 alen β0 w0 dfr a w β Q hG fun a' w' β' hG' => hQ a' w' β' (merge_good m6 hF hb rfl hG')
  | false =>
    have hFy : Fits Φ ρ X.kin sy := ⟨fun x k i hx => hF.tr x k i (m5 _ hx), fun e' b hx => by
      rw [m2] at hx
      rcases List.mem_cons.mp hx with hx | hx
      · cases hx; exact hb
      · exact hF.asr e' b (by rw [m3]; exact hx), hF.kin⟩
    obtain ⟨a1, a2, a3⟩ := ky _ _ h2 hsY hFy
    refine ⟨le1, ⟨by rw [m4]; exact a2.narg, fun r hr => ?_, fun t sv ht => ?_⟩, fun b hb' alen β0 w0 dfr a w β Q hG hQ => ?_⟩
    · cases hh : alook sm.mem r with
      | none => rfl
      | some cs =>
        obtain ⟨_, ⟨x, hx⟩⟩ := hmem r cs hh
        rw [a2.none r (by rw [m4] at hr; exact hr)] at hx
        cases hx
    · obtain ⟨_, ⟨x, hx⟩⟩ := hslot t sv ht
      exact a2.size t x hx
    · subst hb'
      exact a3 alen β0 w0 dfr a w β Q hG fun a' w' β' hG' => hQ a' w' β' (merge_good m6 hF hb rfl hG')

theorem regN_inv {draw : Bool} {st st' : St} {ex : Ex} (h : regN X ops draw st = .ok (ex, st')) : ex = .normal ∧ execRegion X ops draw st = .ok st' := by
  unfold regN at h
  split at h
  · rename_i st1 h1; cases h; exact ⟨rfl, h1⟩
  · cases h
  · cases h

theorem regN_le {draw : Bool} (st : St) (ex : Ex) (st' : St) (h : regN X ops draw st = .ok (ex, st')) : st.Le st' := execRegion_le (regN_inv h).2

theorem execRegionM_le {draw : Bool} {st st' : St} (h : execRegionM X ops draw st = .ok st') : st.Le st' := by
  unfold execRegionM at h
  split at h
  · rename_i st1 h1
    cases h
    have := execRegion_le h1
    exact ⟨this.tr, this.asr, this.nr⟩
  · split at h
    · rename_i sm hm; cases h; exact (mergeTry_le hm regN_le regN_le).1
    · exact execRegion_le h
  · cases h

theorem execRegionM_ok (hmix : X.P.follows .mixedOrders = true) (htbl : ∀ f s, findS X.cx.tbl f = some s → SummOK X.P f s (Φ f)) {id : Nat} {draw : Bool} {st st' : St} (h : execRegionM X ops draw st = .ok st') (hs : StOK X st) (hF : Fits Φ ρ X.kin st') :
    CodeOK X ρ (.region id ops draw) st .normal st' := by
  unfold execRegionM at h
  split at h
  · rename_i st1 h1
    cases h
    obtain ⟨a1, a2, a3⟩ := execRegion_ok (ρ := ρ) (id := id) hmix htbl h1 ⟨hs.narg, hs.none, hs.size⟩ ⟨hF.tr, hF.asr, hF.kin⟩
    exact ⟨⟨a1.tr, a1.asr, a1.nr⟩, ⟨a2.narg, a2.none, a2.size⟩, a3⟩
  · split at h
    · rename_i sm hm
      cases h
      have k : ∀ st st', regN X ops draw st = .ok (.normal, st') → StOK X st → Fits Φ ρ X.kin st' → CodeOK X ρ (.region id ops draw) st .normal st' := fun st st' h1 h2 h3 => execRegion_ok hmix htbl (regN_inv h1).2 h2 h3
      obtain ⟨a1, a2, a3⟩ := mergeTry_ok hm hs hF regN_le regN_le k k
      refine ⟨a1, a2, fun alen β0 w0 dfr a w β Q hG hQ => ?_⟩
      have := a3 _ rfl alen β0 w0 dfr a w β Q hG hQ
      simpa using this
    · exact execRegion_ok hmix htbl h hs hF
  · cases h

theorem execLoop_le {body : St → R (Ex × St)} (hb : ∀ st ex st', body st = .ok (ex, st') → st.Le st') : ∀ (n : Nat) (st : St) (ex : Ex) (st' : St), execLoop body n st = .ok (ex, st') → st.Le st'
  | 0, st, ex, st', h => by simp [execLoop] at h
  | n + 1, st, ex, st', h => by
    simp only [execLoop] at h
    split at h
    · rename_i st1 h1
      exact (hb _ _ _ h1).trans (execLoop_le hb n st1 ex st' h)
    · rename_i h1; cases h; exact hb _ _ _ h1
    · rename_i h1; cases h; exact hb _ _ _ h1
    · cases h
    · cases h

theorem execCode_le (fuel : Nat) : ∀ (c : Code) (st : St) (ex : Ex) (st' : St), execCode X fuel c st = .ok (ex, st') → st.Le st' := by
  intro c
  induction c with
  | skip => intro st ex st' h; simp only [execCode] at h; cases h; exact St.Le.refl _
  | label l => intro st ex st' h; simp only [execCode] at h; cases h; exact St.Le.refl _
  | exit id => intro st ex st' h; simp only [execCode] at h; cases h; exact St.Le.refl _
  | ret => intro st ex st' h; simp only [execCode] at h; cases h; exact St.Le.refl _
  | region id ops draw =>
    intro st ex st' h
    simp only [execCode] at h
    split at h
    · rename_i st1 hr
      cases h
      exact execRegionM_le hr
    · cases h
    · cases h
  | seq x y ihx ihy =>
    intro st ex st' h
    simp only [execCode] at h
    split at h
    · rename_i st1 hx; exact (ihx _ _ _ hx).trans (ihy _ _ _ h)
    · rename_i hx; cases h; exact ihx _ _ _ hx
    · rename_i hx; cases h; exact ihx _ _ _ hx
    · cases h
    · cases h
  | cond c x y ihx ihy =>
    intro st ex st' h
    simp only [execCode] at h
    split at h
    · split at h
      · exact ihx _ _ _ h
      · exact ihy _ _ _ h
      · split at h
        · rename_i sm hm; cases h; exact (mergeTry_le hm ihx ihy).1
        · split at h
          · rename_i st1 htk
            split at h
            · exact (take_ok htk).1.trans (ihx _ _ _ h)
            · exact (take_ok htk).1.trans (ihy _ _ _ h)
            · cases h
          · cases h
          · cases h
    · cases h
  | block id c ih =>
    intro st ex st' h
    simp only [execCode] at h
    split at h
    · rename_i hx
      split at h <;> (cases h; exact ih _ _ _ hx)
    · rename_i hx; cases h; exact ih _ _ _ hx
    · rename_i hx; cases h; exact ih _ _ _ hx
    · cases h
    · cases h
  | loop c ih => intro st ex st' h; simp only [execCode] at h; exact execLoop_le ih _ _ _ _ h
  | rangeFunc => intro st ex st' h; simp [execCode] at h
  | scope => intro st ex st' h; simp [execCode] at h
  | goto => intro st ex st' h; simp [execCode] at h
  | refuse => intro st ex st' h; simp [execCode] at h

theorem take_stOK {st st1 : St} {e : E} (h : st.take e = .ok st1) (hs : StOK X st) : StOK X st1 := by
  obtain ⟨_, h2, h3, h4, _, _⟩ := take_ok h
  exact ⟨by rw [h4]; exact hs.narg, by rw [h4, h3]; exact hs.none, by rw [h2]; exact hs.size⟩

theorem execCode_ok (hmix : X.P.follows .mixedOrders = true) (htbl : ∀ f s, findS X.cx.tbl f = some s → SummOK X.P f s (Φ f)) (fuel : Nat) :
    ∀ (c : Code) (st : St) (ex : Ex) (st' : St), execCode X fuel c st = .ok (ex, st') → StOK X st → Fits Φ ρ X.kin st' → CodeOK X ρ c st ex st' := by
  intro c
  induction c with
  | skip =>
    intro st ex st' h hs hF
    simp only [execCode] at h; cases h
    exact ⟨St.Le.refl st, hs, fun alen β0 w0 dfr a w β Q hG hQ => wp_skip (hQ a w β hG)⟩
  | label l =>
    intro st ex st' h hs hF
    simp only [execCode] at h; cases h
    exact ⟨St.Le.refl st, hs, fun alen β0 w0 dfr a w β Q hG hQ => wp_label (hQ a w β hG)⟩
  | exit id =>
    intro st ex st' h hs hF
    simp only [execCode] at h; cases h
    exact ⟨St.Le.refl st, hs, fun alen β0 w0 dfr a w β Q hG hQ => wp_exit (hQ a w β hG)⟩
  | ret =>
    intro st ex st' h hs hF
    simp only [execCode] at h; cases h
    exact ⟨St.Le.refl st, hs, fun alen β0 w0 dfr a w β Q hG hQ => wp_ret (hQ a w β hG)⟩
  | region id ops draw =>
    intro st ex st' h hs hF
    simp only [execCode] at h
    split at h
    · rename_i st1 hr
      cases h
      exact execRegionM_ok hmix htbl hr hs hF
    · cases h
    · cases h
  | seq x y ihx ihy =>
    intro st ex st' h hs hF
    simp only [execCode] at h
    split at h
    · rename_i st1 hx
      have hF1 := hF.of_le (execCode_le fuel y _ _ _ h)
      obtain ⟨a1, a2, a3⟩ := ihx st .normal st1 hx hs hF1
      obtain ⟨b1, b2, b3⟩ := ihy st1 ex st' h a2 hF
      refine ⟨a1.trans b1, b2, fun alen β0 w0 dfr a w β Q hG hQ => wp_seq (a3 alen β0 w0 dfr a w β _ hG fun a' w' β' hG' => ?_)⟩
      exact b3 alen β0 w0 dfr a' w' β' Q hG' hQ
    · rename_i id st1 hx
      cases h
      obtain ⟨a1, a2, a3⟩ := ihx st _ _ hx hs hF
      exact ⟨a1, a2, fun alen β0 w0 dfr a w β Q hG hQ => wp_seq (a3 alen β0 w0 dfr a w β _ hG fun a' w' β' hG' => hQ a' w' β' hG')⟩
    · rename_i st1 hx
      cases h
      obtain ⟨a1, a2, a3⟩ := ihx st _ _ hx hs hF
      exact ⟨a1, a2, fun alen β0 w0 dfr a w β Q hG hQ => wp_seq (a3 alen β0 w0 dfr a w β _ hG fun a' w' β' hG' => hQ a' w' β' hG')⟩
    · cases h
    · cases h
  | cond c x y ihx ihy =>
    intro st ex st' h hs hF
    simp only [execCode] at h
    split at h
    case h_2 => cases h
    rename_i e hc
    have hyes : ∀ (st1 : St), st.Le st1 → st1.slots = st.slots → st1.mem = st.mem → StOK X st1 → st1.decide e = some true → execCode X fuel x st1 = .ok (ex, st') → CodeOK X ρ (.cond c x y) st ex st' := by
      intro st1 hle e1 e2 hs1 hd hx
      obtain ⟨a1, a2, a3⟩ := ihx st1 ex st' hx hs1 hF
      refine ⟨hle.trans a1, a2, fun alen β0 w0 dfr a w β Q hG hQ => ?_⟩
      have hv := (opv_ok hG hc).1
      simp only [SV.den, S.den, decide_ok (hF.of_le a1) hd] at hv
      exact wp_cond_true hv (a3 alen β0 w0 dfr a w β Q (by rw [e1, e2]; exact hG) hQ)
    have hno : ∀ (st1 : St), st.Le st1 → st1.slots = st.slots → st1.mem = st.mem → StOK X st1 → st1.decide e = some false → execCode X fuel y st1 = .ok (ex, st') → CodeOK X ρ (.cond c x y) st ex st' := by
      intro st1 hle e1 e2 hs1 hd hx
      obtain ⟨a1, a2, a3⟩ := ihy st1 ex st' hx hs1 hF
      refine ⟨hle.trans a1, a2, fun alen β0 w0 dfr a w β Q hG hQ => ?_⟩
      have hv := (opv_ok hG hc).1
      simp only [SV.den, S.den, decide_ok (hF.of_le a1) hd] at hv
      exact wp_cond_false hv (a3 alen β0 w0 dfr a w β Q (by rw [e1, e2]; exact hG) hQ)
    split at h
    · rename_i hd; exact hyes st (St.Le.refl st) rfl rfl hs hd h
    · rename_i hd; exact hno st (St.Le.refl st) rfl rfl hs hd h
    · split at h
      · rename_i sm hm
        cases h
        obtain ⟨a1, a2, a3⟩ := mergeTry_ok hm hs hF (execCode_le fuel x) (execCode_le fuel y) (fun st st' h1 h2 h3 => ihx st _ st' h1 h2 h3) (fun st st' h1 h2 h3 => ihy st _ st' h1 h2 h3)
        refine ⟨a1, a2, fun alen β0 w0 dfr a w β Q hG hQ => ?_⟩
        have hv := (opv_ok hG hc).1
        simp only [SV.den, S.den] at hv
        have k := a3 _ rfl alen β0 w0 dfr a w β Q hG hQ
        cases hb : (!(e.den ρ == 0)) with
        | true => rw [hb] at hv k; exact wp_cond_true hv k
        | false => rw [hb] at hv k; exact wp_cond_false hv k
      · split at h
        · rename_i st1 htk
          obtain ⟨t1, t2, t3, _, _, _⟩ := take_ok htk
          split at h
          · rename_i hd; exact hyes st1 t1 t2 t3 (take_stOK htk hs) hd h
          · rename_i hd; exact hno st1 t1 t2 t3 (take_stOK htk hs) hd h
          · cases h
        · cases h
        · cases h
  | block id c ih =>
    intro st ex st' h hs hF
    simp only [execCode] at h
    split at h
    · rename_i id' st1 hx
      split at h
      · rename_i hid
        cases h
        obtain ⟨a1, a2, a3⟩ := ih st _ _ hx hs hF
        exact ⟨a1, a2, fun alen β0 w0 dfr a w β Q hG hQ => wp_block (a3 alen β0 w0 dfr a w β _ hG fun a' w' β' hG' => by
          simp only [Ex.to, Exit.inBlock, hid, if_true]; exact hQ a' w' β' hG')⟩
      · rename_i hid
        cases h
        obtain ⟨a1, a2, a3⟩ := ih st _ _ hx hs hF
        exact ⟨a1, a2, fun alen β0 w0 dfr a w β Q hG hQ => wp_block (a3 alen β0 w0 dfr a w β _ hG fun a' w' β' hG' => by
          simp only [Ex.to, Exit.inBlock, hid, if_false]; exact hQ a' w' β' hG')⟩
    · rename_i st1 hx
      cases h
      obtain ⟨a1, a2, a3⟩ := ih st _ _ hx hs hF
      exact ⟨a1, a2, fun alen β0 w0 dfr a w β Q hG hQ => wp_block (a3 alen β0 w0 dfr a w β _ hG fun a' w' β' hG' => hQ a' w' β' hG')⟩
    · rename_i st1 hx
      cases h
      obtain ⟨a1, a2, a3⟩ := ih st _ _ hx hs hF
      exact ⟨a1, a2, fun alen β0 w0 dfr a w β Q hG hQ => wp_block (a3 alen β0 w0 dfr a w β _ hG fun a' w' β' hG' => hQ a' w' β' hG')⟩
    · cases h
    · cases h
  | loop c ih =>
    intro st ex st' h hs hF
    simp only [execCode] at h
    have key : ∀ (n : Nat) (st : St) (ex : Ex) (st' : St), execLoop (execCode X fuel c) n st = .ok (ex, st') → StOK X st → Fits Φ ρ X.kin st' →
        st.Le st' ∧ StOK X st' ∧ ∀ (alen : Nat → Nat) (β0 : Nat → Nat × Nat) (w0 : World) (dfr : List Deferred) (a : Act) (w : World) (β : Nat → Nat × Nat) (Q : Exit → Act → World → Prop),
          Good (X.env alen β0 w0 dfr) st.slots st.mem ρ β a w → (∀ a' w' β', Good (X.env alen β0 w0 dfr) st'.slots st'.mem ρ β' a' w' → Q ex.to a' w') → Code.rounds X.P c Q n a w := by
      intro n
      induction n with
      | zero => intro st ex st' h; simp [execLoop] at h
      | succ n ihn =>
        intro st ex st' h hs hF
        simp only [execLoop] at h
        split at h
        · rename_i st1 h1
          have hF1 := hF.of_le (execLoop_le (execCode_le fuel c) n _ _ _ h)
          obtain ⟨a1, a2, a3⟩ := ih st _ _ h1 hs hF1
          obtain ⟨b1, b2, b3⟩ := ihn st1 ex st' h a2 hF
          refine ⟨a1.trans b1, b2, fun alen β0 w0 dfr a w β Q hG hQ => ?_⟩
          rw [rounds_succ]
          exact a3 alen β0 w0 dfr a w β _ hG fun a' w' β' hG' => b3 alen β0 w0 dfr a' w' β' Q hG' hQ
        · rename_i id st1 h1
          cases h
          obtain ⟨a1, a2, a3⟩ := ih st _ _ h1 hs hF
          refine ⟨a1, a2, fun alen β0 w0 dfr a w β Q hG hQ => ?_⟩
          rw [rounds_succ]
          exact a3 alen β0 w0 dfr a w β _ hG fun a' w' β' hG' => hQ a' w' β' hG'
        · rename_i st1 h1
          cases h
          obtain ⟨a1, a2, a3⟩ := ih st _ _ h1 hs hF
          refine ⟨a1, a2, fun alen β0 w0 dfr a w β Q hG hQ => ?_⟩
          rw [rounds_succ]
          exact a3 alen β0 w0 dfr a w β _ hG fun a' w' β' hG' => hQ a' w' β' hG'
        · cases h
        · cases h
    obtain ⟨a1, a2, a3⟩ := key fuel st ex st' h hs hF
    exact ⟨a1, a2, fun alen β0 w0 dfr a w β Q hG hQ => wp_loop_rounds fuel (a3 alen β0 w0 dfr a w β Q hG hQ)⟩
  | rangeFunc => intro st ex st' h; simp [execCode] at h
  | scope => intro st ex st' h; simp [execCode] at h
  | goto => intro st ex st' h; simp [execCode] at h
  | refuse => intro st ex st' h; simp [execCode] at h

end
end Go.Sym
