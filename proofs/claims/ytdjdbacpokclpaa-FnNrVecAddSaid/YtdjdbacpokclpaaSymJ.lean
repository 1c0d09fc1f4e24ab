/- Symbolic runs of straight Go code over the model: a region is carried out as it is reckoned, in whatever order. -/
import Derived.Test.YtdjdbacpokclpaaSymI
namespace Go.Sym
section
variable {P : Program} {E : Env} {Φ : Nat → List Int → List Int} {ρ : Nat → Int} {β : Nat → Nat × Nat} {a : Act} {w : World} {ops : Array Oper} {x : Rec}
  {slots slots0 slots' : List (Nat × SV)} {mem mem0 mem' : List (Nat × List S)} {K : Act → World → Prop} {Q : Exit → Act → World → Prop}

theorem opTmps_mem {o : Oper} {t : Nat} (h : Operand.tmp t ∈ o.op.operands) : t ∈ opTmps o := List.mem_filterMap.2 ⟨.tmp t, by simpa using h, rfl⟩

theorem rec_step (htbl : ∀ f s, findS E.cx.tbl f = some s → SummOK P f s (Φ f)) (hR : RecOK Φ ρ E.cx P E.sz ops slots0 mem0 x) (hG : Good E slots mem ρ β a w)
    (hs : ∀ t ∈ x.uses, alook slots t = alook slots0 t) (hm : ∀ r ∈ x.tch, alook mem r = alook mem0 r) (hn : alook mem x.nr = none) (hsz : ∀ t sv, alook slots t = some sv → t < E.sz)
    (hsl : ∀ t, alook slots' t = if x.o.dst = some t then some x.out.sv else alook slots t) (hme : ∀ r, alook mem' r = memEff x.out x.nr (alook mem) r)
    (hK : ∀ a' w' β', Good E slots' mem' ρ β' a' w' → K a' w') :
    if Region.wanted x.o (yielded ops a.tmps) then x.o.wp P a w K Q else K (a.put x.o.dst undef) w := by
  have hw : Region.wanted x.o (yielded ops a.tmps) = x.wanted := by
    refine wanted_run hG hsz ?_
    have h := hR.wanted
    unfold WantedOK at h ⊢
    cases hg : x.o.guard with
    | none => rw [hg] at h; exact h
    | some g =>
      obtain ⟨j, want⟩ := g
      rw [hg] at h
      obtain ⟨t, e, h1, h2, h3⟩ := h
      refine ⟨t, e, h1, ?_, h3⟩
      rw [hs t (by rw [hR.uses, usesOf, h1]; simp)]
      exact h2
  rw [hw]
  cases hxw : x.wanted with
  | true =>
    obtain ⟨V, h1, h2, h3, h4, h5, h6, h7⟩ := hR.yes hxw
    simp only [if_true]
    refine good_step (V := V) htbl hG (fun y hy => ?_) (fun r cs hr => ?_) h3 h4 (by rw [h5]; exact hn) (by rw [h5]; exact hR.nr) hR.dst h7 h6 hsl (by rw [h5]; exact hme) hK
    · rw [h1]
      cases y with
      | tmp t => exact (hs t (by rw [hR.uses, usesOf]; simp [opTmps_mem hy])).symm
      | _ => rfl
    · obtain ⟨g1, g2⟩ := h2 r cs hr
      rw [hm r g1]; exact g2
  | false =>
    simp only [Bool.false_eq_true, if_false]
    have hout := hR.no hxw
    refine hK _ _ β (good_skip hG hR.dst (fun t => by rw [hsl, hout]) (fun r => ?_))
    rw [hme, hout]
    rfl

/-- The records of a list of operations, one behind the other. -/
def RecsOK (Φ : Nat → List Int → List Int) (ρ : Nat → Int) (cx : Cx) (P : Program) (sz : Nat) (ops : Array Oper) : List (Nat × SV) → List (Nat × List S) → Nat → List Rec → Prop
  | _, _, _, [] => True
  | slots, mem, n, x :: rs => RecOK Φ ρ cx P sz ops slots mem x ∧ x.nr = n ∧ RecsOK Φ ρ cx P sz ops (putSlot x slots) (putMem x mem) (n + 1) rs

theorem none_put {n : Nat} (hx : x.nr = n) (h : ∀ r, n ≤ r → alook mem r = none) : ∀ r, n + 1 ≤ r → alook (putMem x mem) r = none := by
  intro r hr
  rw [alook_putMem]
  unfold memEff
  have h0 := h r (by omega)
  have hne : r ≠ x.nr := by omega
  cases x.out.fr with
  | none =>
    cases x.out.wr with
    | none => exact h0
    | some p => obtain ⟨r', o, xs⟩ := p; simp [h0]
  | some cs =>
    simp only [hne, if_false]
    cases x.out.wr with
    | none => exact h0
    | some p => obtain ⟨r', o, xs⟩ := p; simp [h0]

theorem size_put (hd : ∀ d, x.o.dst = some d → d < E.sz) (h : ∀ t sv, alook slots t = some sv → t < E.sz) : ∀ t sv, alook (putSlot x slots) t = some sv → t < E.sz := by
  intro t sv ht
  rw [alook_putSlot] at ht
  split at ht
  · rename_i hdt; exact hd t hdt
  · exact h t sv ht

/-- In the order of the text. -/
theorem seq_ok (htbl : ∀ f s, findS E.cx.tbl f = some s → SummOK P f s (Φ f)) : ∀ (rs : List Rec) (slots : List (Nat × SV)) (mem : List (Nat × List S)) (n : Nat) (a : Act) (w : World) (β : Nat → Nat × Nat),
    RecsOK Φ ρ E.cx P E.sz ops slots mem n rs → Good E slots mem ρ β a w → (∀ r, n ≤ r → alook mem r = none) → (∀ t sv, alook slots t = some sv → t < E.sz) →
    (∀ a' w' β', Good E (slotsOf rs slots) (memOf rs mem) ρ β' a' w' → Q .normal a' w') → wpList P ops Q (rs.map (·.o)) a w
  | [], slots, mem, n, a, w, β, _, hG, _, _, hQ => hQ a w β hG
  | x :: rs, slots, mem, n, a, w, β, hR, hG, hn, hsz, hQ => by
    obtain ⟨h1, h2, h3⟩ := hR
    refine wpList_step fun K hK => ?_
    refine rec_step (slots' := putSlot x slots) (mem' := putMem x mem) htbl h1 hG (fun _ _ => rfl) (fun _ _ => rfl) (hn _ (by omega)) hsz (alook_putSlot x slots) (alook_putMem x mem) (fun a' w' β' hG' => hK _ _ ?_)
    exact seq_ok htbl rs _ _ (n + 1) a' w' β' h3 hG' (none_put h2 hn) (size_put h1.dst hsz) hQ

theorem RecsOK.at {cx : Cx} {sz : Nat} : ∀ {rs : List Rec} {slots : List (Nat × SV)} {mem : List (Nat × List S)} {n : Nat}, RecsOK Φ ρ cx P sz ops slots mem n rs → ∀ {i : Nat} {x : Rec}, rs[i]? = some x →
    RecOK Φ ρ cx P sz ops (slotsOf (rs.take i) slots) (memOf (rs.take i) mem) x ∧ x.nr = n + i
  | [], _, _, _, _, i, x, hx => by simp at hx
  | y :: rs, slots, mem, n, h, i, x, hx => by
    obtain ⟨h1, h2, h3⟩ := h
    cases i with
    | zero => simp at hx; subst hx; exact ⟨h1, h2⟩
    | succ i =>
      obtain ⟨g1, g2⟩ := RecsOK.at h3 (i := i) (x := x) (by simpa using hx)
      exact ⟨by simpa [slotsOf_cons, memOf_cons] using g1, by omega⟩

theorem none_of {cx : Cx} {sz : Nat} : ∀ {rs : List Rec} {slots : List (Nat × SV)} {mem : List (Nat × List S)} {n : Nat}, RecsOK Φ ρ cx P sz ops slots mem n rs → (∀ r, n ≤ r → alook mem r = none) → ∀ i, i ≤ rs.length → ∀ r, n + i ≤ r → alook (memOf (rs.take i) mem) r = none
  | rs, slots, mem, n, h, hn, 0, _, r, hr => by simpa [memOf] using hn r hr
  | [], _, _, _, _, _, i + 1, hi, _, _ => by simp at hi
  | y :: rs, slots, mem, n, h, hn, i + 1, hi, r, hr => by
    obtain ⟨h1, h2, h3⟩ := h
    have := none_of h3 (none_put h2 hn) i (by simpa using hi) r (by omega)
    simpa [memOf_cons] using this

theorem slotConf_symm (x y : Rec) (h : slotConf x y = true) : slotConf y x = true := by
  unfold slotConf at *
  cases hx : x.o.dst with
  | none => cases hy : y.o.dst <;> simp_all
  | some d =>
    cases hy : y.o.dst with
    | none => simp_all
    | some e =>
      simp only [hx, hy, Bool.or_eq_true, beq_iff_eq, Option.some.injEq] at h ⊢
      rcases h with (h | h) | h
      · exact .inr h
      · exact .inl (.inr h.symm)
      · exact .inl (.inl h)

theorem memConf_symm (x y : Rec) (h : memConf x y = true) : memConf y x = true := by
  unfold memConf at *
  simp only [Bool.or_eq_true, List.any_eq_true, List.contains_iff_mem] at h ⊢
  rcases h with ⟨r, h1, h2 | h2⟩ | ⟨r, h1, h2⟩
  · exact .inl ⟨r, h2, .inl h1⟩
  · exact .inr ⟨r, h1, h2⟩
  · exact .inl ⟨r, h1, .inr h2⟩

theorem conf_symm (x y : Rec) (h : conf x y = true) : conf y x = true := by
  simp only [conf, Bool.or_eq_true] at *
  rcases h with h | h
  · exact .inl (slotConf_symm x y h)
  · exact .inr (memConf_symm x y h)

theorem zipIdx_all {α : Type} {p : α × Nat → Bool} {l : List α} (h : l.zipIdx.all p = true) (i : Nat) (x : α) (hx : l[i]? = some x) : p (x, i) = true := by
  rw [List.all_eq_true] at h
  refine h (x, i) ?_
  rw [List.mem_iff_getElem?]
  exact ⟨i, by simp [hx]⟩

/-- In whatever order the edges let. -/
theorem any_ok (htbl : ∀ f s, findS E.cx.tbl f = some s → SummOK P f s (Φ f)) {rs : List Rec} {slots : List (Nat × SV)} {mem : List (Nat × List S)} {n : Nat} (hops : ops.toList = rs.map (·.o))
    (hR : RecsOK Φ ρ E.cx P E.sz ops slots mem n rs) (hO : orderOK rs = true) (hn : ∀ r, n ≤ r → alook mem r = none) (hsz : ∀ t sv, alook slots t = some sv → t < E.sz)
    (hQ : ∀ a' w' β', Good E (slotsOf rs slots) (memOf rs mem) ρ β' a' w' → Q .normal a' w') :
    ∀ (fuel : Nat) (listed : Array Bool) (a : Act) (w : World) (β : Nat → Nat × Nat), listed.size = rs.length → (listed.toList.filter (!·)).length ≤ fuel →
      (∀ (i : Nat) o, ops[i]? = some o → listed.getD i false = true → ∀ d ∈ depsOf o, listed.getD d false = true) →
      Good E (slotsOf (sel (listed.getD · false) 0 rs) slots) (memOf (sel (listed.getD · false) 0 rs) mem) ρ β a w → wpAny P .any ops Q fuel listed a w := by
  have hget : ∀ i : Nat, ops[i]? = (rs[i]?).map (·.o) := fun i => by
    rw [← Array.getElem?_toList, hops, List.getElem?_map]
  have hsize : ops.size = rs.length := by rw [← Array.length_toList, hops, List.length_map]
  have hconf : ∀ (i : Nat) x, rs[i]? = some x → confAt (ancs (rs.map (·.o)) []) rs i x = true := fun i x hx => zipIdx_all hO i x hx
  have hdeps : ∀ (i : Nat) x, rs[i]? = some x → ∀ d ∈ depsOf x.o, d < i := fun i x hx d hd => by
    have := hconf i x hx
    simp only [confAt, Bool.and_eq_true, List.all_eq_true, decide_eq_true_eq] at this
    exact this.2 d hd
  -- all that are there
  have hall : ∀ (listed : Array Bool), listed.size = rs.length → Region.ready .any ops listed = [] → ∀ i, i < rs.length → listed.getD i false = true := by
    intro listed hls hr i
    induction i using Nat.strongRecOn with
    | _ i ih =>
      intro hi
      cases hl : listed.getD i false with
      | true => rfl
      | false =>
        exfalso
        have hx : rs[i]? = some rs[i] := by simp [hi]
        have : i ∈ Region.ready .any ops listed := by
          rw [mem_ready]
          refine ⟨?_, rs[i].o, by rw [hget, hx]; rfl, fun e he hb => ?_⟩
          · simp [hls, hi] at hl ⊢; exact hl
          · have hd : e.on ∈ depsOf rs[i].o := by
              simp only [depsOf, List.mem_map, List.mem_filter]
              exact ⟨e, ⟨by simpa using he, hb⟩, rfl⟩
            have hlt := hdeps i _ hx _ hd
            exact ih e.on hlt (by omega)
        rw [hr] at this
        cases this
  have hfin : ∀ (listed : Array Bool) (a : Act) (w : World) (β : Nat → Nat × Nat), listed.size = rs.length → Region.ready .any ops listed = [] →
      Good E (slotsOf (sel (listed.getD · false) 0 rs) slots) (memOf (sel (listed.getD · false) 0 rs) mem) ρ β a w → Q .normal a w := by
    intro listed a w β hls hr hG
    rw [sel_all rs 0 (fun j _ hj => hall listed hls hr j (by omega))] at hG
    exact hQ a w β hG
  intro fuel
  induction fuel with
  | zero =>
    intro listed a w β hls hf hdown hG
    have hr : Region.ready .any ops listed = [] := by
      cases hrd : Region.ready .any ops listed with
      | nil => rfl
      | cons i l =>
        have hi : i ∈ Region.ready .any ops listed := by rw [hrd]; simp
        obtain ⟨h1, o, ho, _⟩ := mem_ready.1 hi
        have hlt : i < listed.size := by
          rw [hls, ← hsize]
          exact (Array.getElem?_eq_some_iff.1 ho).1
        have hmem : listed[i] ∈ listed.toList.filter (!·) := by
          rw [List.mem_filter]
          simp [hlt] at h1
          exact ⟨by simp, by simp [h1]⟩
        have := List.length_pos_of_mem hmem
        omega
    exact ⟨hr, hfin listed a w β hls hr hG⟩
  | succ fuel ih =>
    intro listed a w β hls hf hdown hG
    refine ⟨fun hr => hfin listed a w β hls hr hG, fun i hi => ?_⟩
    obtain ⟨hi0, o, ho, hod⟩ := mem_ready.1 hi
    have hilt : i < listed.size := by rw [hls, ← hsize]; exact (Array.getElem?_eq_some_iff.1 ho).1
    have hxi : rs[i]? = some (rs[i]'(by omega)) := by simp [hls ▸ hilt]
    generalize hx0 : rs[i]'(by omega) = x at hxi
    have hxo : x.o = o := by rw [hget, hxi] at ho; simpa using ho
    have hLi : listed.getD i false = false := by simp [hilt] at hi0 ⊢; exact hi0
    obtain ⟨hrec, hxnr⟩ := hR.at hxi
    -- whatever is in conflict with it has been carried out just if it stands before it
    have hdown' : ∀ (j : Nat) o', (rs.map (·.o))[j]? = some o' → listed.getD j false = true → ∀ d ∈ depsOf o', listed.getD d false = true := by
      intro j o' hj hl
      refine hdown j o' ?_ hl
      rw [hget]; rw [List.getElem?_map] at hj; exact hj
    have hanc := ancs_spec (L := (listed.getD · false)) hdown' (rs.map (·.o)) [] (fun j o' hj => by simpa using hj) (fun k hk => by simp at hk)
    have hord : ∀ (j : Nat) y, rs[j]? = some y → j ≠ i → conf y x = true → listed.getD j false = decide (j < i) := by
      intro j y hy hji hc
      rcases Nat.lt_or_gt_of_ne hji with hlt | hgt
      · have h1 := hconf i x hxi
        simp only [confAt, Bool.and_eq_true] at h1
        have h2 := zipIdx_all h1.1 j y hy
        simp only [Bool.or_eq_true, decide_eq_true_eq, Bool.not_eq_true'] at h2
        rcases h2 with (h2 | h2) | h2
        · omega
        · rw [hc] at h2; cases h2
        · rw [hanc i (fun o' ho' d hd => ?_) j h2]
          · simp [hlt]
          · rw [List.getElem?_map, hxi] at ho'
            simp only [Option.map_some, Option.some.injEq] at ho'
            subst ho'
            rw [hxo] at hd
            simp only [depsOf, List.mem_map, List.mem_filter] at hd
            obtain ⟨e, ⟨he, hb⟩, rfl⟩ := hd
            exact hod e (by simpa using he) hb
      · have h1 := hconf j y hy
        simp only [confAt, Bool.and_eq_true] at h1
        have h2 := zipIdx_all h1.1 i x hxi
        simp only [Bool.or_eq_true, decide_eq_true_eq, Bool.not_eq_true'] at h2
        cases hl : listed.getD j false with
        | false => simp; omega
        | true =>
          exfalso
          rcases h2 with (h2 | h2) | h2
          · omega
          · rw [conf_symm _ _ hc] at h2; cases h2
          · have := hanc j (fun o' ho' d hd => hdown' j o' ho' hl d hd) i h2
            rw [hLi] at this
            cases this
    have hslot : ∀ t ∈ x.uses, alook (slotsOf (sel (listed.getD · false) 0 rs) slots) t = alook (slotsOf (rs.take i) slots) t := by
      intro t ht
      have e : rs.take i = sel (fun j => decide (j < i)) 0 rs := by rw [sel_lt rs 0 i (by omega)]; simp
      rw [e]
      refine slot_agree rs 0 rfl fun j y hy hd => ?_
      simp only [Nat.zero_add]
      by_cases hji : j = i
      · subst hji; rw [hLi]; simp
      · refine hord j y hy hji ?_
        simp only [conf, slotConf, hd, Bool.or_eq_true]
        exact .inl (.inl (.inl (List.contains_iff_mem.2 ht)))
    have hmema : ∀ r, (r ∈ x.tch ∨ r ∈ x.writes) → alook (memOf (sel (listed.getD · false) 0 rs) mem) r = alook (memOf (rs.take i) mem) r := by
      intro r hr
      have e : rs.take i = sel (fun j => decide (j < i)) 0 rs := by rw [sel_lt rs 0 i (by omega)]; simp
      rw [e]
      refine mem_agree rs 0 rfl fun j y hy hd => ?_
      simp only [Nat.zero_add]
      by_cases hji : j = i
      · subst hji; rw [hLi]; simp
      · refine hord j y hy hji ?_
        simp only [conf, memConf, Bool.or_eq_true, List.any_eq_true, List.contains_iff_mem]
        exact .inr (.inl ⟨r, hd, hr.symm⟩)
    have hnone : alook (memOf (sel (listed.getD · false) 0 rs) mem) x.nr = none := by
      rw [hmema x.nr (.inr (by simp [Rec.writes])), hxnr]
      exact none_of hR hn i (by omega) _ (Nat.le_refl _)
    -- the state behind it
    have hL' : ∀ j, (listed.setIfInBounds i true).getD j false = (listed.getD j false || decide (j = i)) := by
      intro j
      by_cases hji : j = i
      · subst hji; simp [hilt]
      · rw [getD_set_ne false (Ne.symm hji)]; simp [hji]
    obtain ⟨A, B, hA, hB, hBy⟩ := sel_insert (L := (listed.getD · false)) (L' := ((listed.setIfInBounds i true).getD · false)) hLi hL' rs 0 (Nat.zero_le _) (by simpa using hxi)
    have hsl : ∀ t, alook (slotsOf (sel ((listed.setIfInBounds i true).getD · false) 0 rs) slots) t = if x.o.dst = some t then some x.out.sv else alook (slotsOf (sel (listed.getD · false) 0 rs) slots) t := by
      intro t
      rw [hA, hB, slotsOf_append, slotsOf_append, slotsOf_cons]
      by_cases hd : x.o.dst = some t
      · rw [if_pos hd, slotsOf_skip B, alook_putSlot, if_pos hd]
        intro y hy hdy
        obtain ⟨j, g1, g2, g3⟩ := hBy y hy
        have := hord j y (by simpa using g3) (by omega) (by simp [conf, slotConf, hdy, hd])
        rw [g2] at this
        simp at this
        omega
      · rw [if_neg hd]
        exact slotsOf_congr B (by rw [alook_putSlot, if_neg hd])
    have hme : ∀ r, alook (memOf (sel ((listed.setIfInBounds i true).getD · false) 0 rs) mem) r = memEff x.out x.nr (alook (memOf (sel (listed.getD · false) 0 rs) mem)) r := by
      intro r
      rw [hA, hB, memOf_append, memOf_append, memOf_cons]
      by_cases hr : r ∈ x.writes
      · have hskip : ∀ c, alook (memOf B c) r = alook c r := fun c => memOf_skip B fun y hy hry => by
          obtain ⟨j, g1, g2, g3⟩ := hBy y hy
          have := hord j y (by simpa using g3) (by omega) (by
            simp only [conf, memConf, Bool.or_eq_true, List.any_eq_true, List.contains_iff_mem]
            exact .inr (.inl ⟨r, hry, .inl hr⟩))
          rw [g2] at this
          simp at this
          omega
        rw [hskip, alook_putMem]
        exact memEff_congr (hskip _).symm
      · rw [memEff_other hr]
        exact memOf_congr B (by rw [alook_putMem, memEff_other hr])
    have hsz' : ∀ t sv, alook (slotsOf (sel (listed.getD · false) 0 rs) slots) t = some sv → t < E.sz := by
      have gen : ∀ (l : List Rec) (b : List (Nat × SV)), (∀ y ∈ l, ∀ d, y.o.dst = some d → d < E.sz) → (∀ t sv, alook b t = some sv → t < E.sz) → ∀ t sv, alook (slotsOf l b) t = some sv → t < E.sz := by
        intro l
        induction l with
        | nil => intro b _ hb; exact hb
        | cons y l ih => intro b hl hb; exact ih (putSlot y b) (fun z hz => hl z (by simp [hz])) (size_put (hl y (by simp)) hb)
      refine gen _ _ (fun y hy d hd => ?_) hsz
      have hin : y ∈ rs := by
        have : ∀ (l : List Rec) (k : Nat), y ∈ sel (listed.getD · false) k l → y ∈ l := by
          intro l
          induction l with
          | nil => intro k h; simp [sel] at h
          | cons z l ih =>
            intro k h
            simp only [sel] at h
            split at h
            · simp only [List.mem_cons] at h ⊢
              rcases h with h | h
              · exact .inl h
              · exact .inr (ih _ h)
            · simp [ih _ h]
        exact this rs 0 hy
      obtain ⟨j, hj, rfl⟩ := List.getElem_of_mem hin
      exact (hR.at (i := j) (x := rs[j]) (by simp [hj])).1.dst d hd
    have hstep := rec_step (K := wpAny P .any ops Q fuel (listed.setIfInBounds i true)) (Q := Q) htbl hrec hG hslot (fun r hr => hmema r (.inl hr)) hnone hsz' hsl hme (fun a' w' β' hG' => ?_)
    · unfold wpOp
      rw [ho]
      simp only
      rw [hxo] at hstep
      split at hstep
      · rename_i hwt; rw [if_pos hwt]; exact .inl hstep
      · rename_i hwt; rw [if_neg hwt]; exact hstep
    · refine ih (listed.setIfInBounds i true) a' w' β' (by simpa using hls) ?_ ?_ hG'
      · -- one fewer is left
        have : (((listed.setIfInBounds i true).toList).filter (!·)).length < ((listed.toList).filter (!·)).length := by
          rw [Array.toList_setIfInBounds]
          have hl : listed.toList[i]? = some false := by
            rw [Array.getElem?_toList]
            simp [hilt] at hLi ⊢
            exact hLi
          have gen : ∀ (l : List Bool) (i : Nat), l[i]? = some false → ((l.set i true).filter (!·)).length < (l.filter (!·)).length := by
            intro l
            induction l with
            | nil => intro i h; simp at h
            | cons b l ih =>
              intro i h
              cases i with
              | zero => simp at h; subst h; simp
              | succ i =>
                simp only [List.set_cons_succ, List.filter_cons]
                have := ih i (by simpa using h)
                cases b <;> simp <;> omega
          exact gen _ i hl
        omega
      · intro j o' hj hl d hd
        rw [hL'] at hl
        rw [hL']
        simp only [Bool.or_eq_true, decide_eq_true_eq] at hl ⊢
        rcases hl with hl | rfl
        · exact .inl (hdown j o' hj hl d hd)
        · rw [hj] at ho
          cases ho
          simp only [depsOf, List.mem_map, List.mem_filter] at hd
          obtain ⟨e, ⟨he, hb⟩, rfl⟩ := hd
          exact .inl (hod e (by simpa using he) hb)

end
end Go.Sym
