/- Symbolic runs of straight Go code over the model: what a result can name; where an operation writes. -/
import Derived.Test.YtdjdbacpokclpaaSymE
namespace Go.Sym
section
variable {P : Program} {cx : Cx} {V : View} {out : Out}

/-- What may be named. -/
structure Scoped (V : View) (os : Array Operand) (ex : Nat → Prop) : Prop where
  v : ∀ x ∈ os, ∀ sv, V.v x = some sv → ∀ r ∈ sv.refs, ex r
  m : ∀ r cs, V.rd r = some cs → ∀ s ∈ cs, ∀ q, s.ref = some q → ex q

structure OutSc (out : Out) (nr : Nat) (ex : Nat → Prop) : Prop where
  sv : ∀ r ∈ out.sv.refs, ex r ∨ (out.fr.isSome = true ∧ r = nr)
  wr : ∀ r o cs, out.wr = some (r, o, cs) → ∀ s ∈ cs, ∀ q, s.ref = some q → ex q
  fr : ∀ cs, out.fr = some cs → ∀ s ∈ cs, ∀ q, s.ref = some q → ex q

theorem OutSc.plain {out : Out} (hw : out.wr = none) (hf : out.fr = none) {nr : Nat} {ex : Nat → Prop} (h : ∀ r ∈ out.sv.refs, ex r) : OutSc out nr ex :=
  ⟨fun r hr => .inl (h r hr), fun _ _ _ e => (by rw [hw] at e; cases e), fun _ e => (by rw [hf] at e; cases e)⟩

theorem mem_ref_of_mapM {vs : List Value} {cs : List S} (h : vs.mapM S.ofVal = some cs) : ∀ s ∈ cs, s.ref = none := by
  intro s hs
  obtain ⟨h1, h2⟩ := mapM_some _ _ _ h
  obtain ⟨j, hj, rfl⟩ := List.getElem_of_mem hs
  obtain ⟨y, hy, e⟩ := h2 j (vs[j]'(by omega)) (by simp)
  rw [List.getElem?_eq_getElem hj] at hy
  simp at hy
  rw [hy]
  exact (S.ofVal_den e (fun _ => 0) (fun _ => (0, 0))).2

theorem zeroCells_ref {t : TypeId} {cs : List S} (h : zeroCells P t = some cs) : ∀ s ∈ cs, s.ref = none := by
  unfold zeroCells at h
  split at h
  · split at h
    · exact mem_ref_of_mapM h
    · cases h
  · cases h

theorem cells_refs {sv : SV} {cs : List S} (h : sv.cells = some cs) {s : S} (hs : s ∈ cs) {q : Nat} (hq : s.ref = some q) : q ∈ sv.refs := by
  rw [(SV.cells_den h (fun _ => 0) (fun _ => (0, 0))).2]
  exact List.mem_filterMap.2 ⟨s, hs, hq⟩

theorem fillS_mem : ∀ (ps : List (Nat × S)) (cs : List S) (s : S), s ∈ fillS cs ps → s ∈ cs ∨ ∃ p ∈ ps, p.2 = s
  | [], cs, s, h => .inl h
  | p :: ps, cs, s, h => by
    rcases fillS_mem ps (cs.set p.1 p.2) s h with h | ⟨p', hp', e⟩
    · rcases List.mem_or_eq_of_mem_set h with h | h
      · exact .inl h
      · exact .inr ⟨p, by simp, h.symm⟩
    · exact .inr ⟨p', by simp [hp'], e⟩

theorem onesAt_mem : ∀ {ps : List (Nat × Operand)} {qs : List (Nat × S)}, onesAt V ps = some qs → ∀ q ∈ qs, ∃ x ∈ ps.map (·.2), V.v x = some (.s q.2)
  | [], qs, h, q, hq => by simp [onesAt] at h; subst h; simp at hq
  | (i, x) :: ps, qs, h, q, hq => by
    unfold onesAt at h
    split at h
    case h_2 => cases h
    rename_i s hs
    split at h
    case isFalse => cases h
    simp only [Option.map_eq_some_iff] at h
    obtain ⟨qs', hq', rfl⟩ := h
    simp only [List.mem_cons] at hq
    rcases hq with rfl | hq
    · exact ⟨x, by simp, hs⟩
    · obtain ⟨y, hy, e⟩ := onesAt_mem hq' q hq
      exact ⟨y, by simp only [List.map_cons, List.mem_cons]; exact .inr hy, e⟩

theorem window_mem {cs xs : List S} {o n : Nat} (h : window cs o n = some xs) {s : S} (hs : s ∈ xs) : s ∈ cs := by
  unfold window at h
  split at h
  · cases h; exact List.mem_of_mem_drop (List.mem_of_mem_take hs)
  · cases h

theorem aArg_ref {k : AK} {x : Operand} {r : List E × Option (Nat × Nat)} (h : aArg V k x = some r) {q o : Nat} (hq : r.2 = some (q, o)) : ∃ sv, V.v x = some sv ∧ q ∈ sv.refs := by
  unfold aArg at h
  split at h
  · split at h
    · cases h; cases hq
    · cases h
  · split at h
    · cases h; cases hq
    · cases h
  · split at h
    · cases h; cases hq
    · cases h
  · split at h
    · cases h; cases hq
    · cases h
  · rename_i n r0 off hx
    split at h
    case h_2 => cases h
    split at h
    case h_2 => cases h
    simp only [Option.map_eq_some_iff] at h
    obtain ⟨es, _, rfl⟩ := h
    cases hq
    exact ⟨_, hx, by simp [SV.refs, S.ref]⟩
  · rename_i n r0 off len cap hx
    split at h
    case isFalse => cases h
    split at h
    case h_2 => cases h
    split at h
    case h_2 => cases h
    simp only [Option.map_eq_some_iff] at h
    obtain ⟨es, _, rfl⟩ := h
    cases hq
    exact ⟨_, hx, by simp [SV.refs, S.ref]⟩
  · split at h
    · simp only [Option.map_eq_some_iff] at h
      obtain ⟨es, _, rfl⟩ := h
      cases hq
    · cases h
  · cases h

theorem aArgs_ref : ∀ {ks : List AK} {xs : List Operand} {rs : List (List E × Option (Nat × Nat))}, aArgs V ks xs = some rs → ∀ (i : Nat) y q o, rs[i]? = some y → y.2 = some (q, o) → ∃ x ∈ xs, ∃ sv, V.v x = some sv ∧ q ∈ sv.refs
  | [], [], rs, h, i, y, q, o, hy, _ => by simp [aArgs] at h; subst h; simp at hy
  | [], _ :: _, rs, h, _, _, _, _, _, _ => by simp [aArgs] at h
  | _ :: _, [], rs, h, _, _, _, _, _, _ => by simp [aArgs] at h
  | k :: ks, x :: xs, rs, h, i, y, q, o, hy, hq => by
    unfold aArgs at h
    split at h
    case h_2 => cases h
    rename_i r rs' hr hrs
    cases h
    cases i with
    | zero => simp at hy; subst hy; exact ⟨x, by simp, aArg_ref hr hq⟩
    | succ i =>
      obtain ⟨x', hx', e⟩ := aArgs_ref hrs i y q o (by simpa using hy) hq
      exact ⟨x', by simp [hx'], e⟩

theorem aRes_ref {nr : Nat} {as : List (List E × Option (Nat × Nat))} {ex : Nat → Prop} (ha : ∀ (i : Nat) y q o, as[i]? = some y → y.2 = some (q, o) → ex q) :
    ∀ {res : List RK} {i : Nat} {rs : List SV}, aRes nr as res i = some rs → ∀ x ∈ rs, ∀ q ∈ x.refs, ex q ∨ ((aFresh res i).isSome = true ∧ q = nr)
  | [], i, rs, h, x, hx, q, hq => by simp [aRes] at h; subst h; simp at hx
  | .sc k :: res, i, rs, h, x, hx, q, hq => by
    simp only [aRes, Option.map_eq_some_iff] at h
    obtain ⟨rs', hrs, rfl⟩ := h
    simp only [List.mem_cons] at hx
    rcases hx with rfl | hx
    · cases k <;> simp [SV.refs, S.ref] at hq
    · simpa [aFresh] using aRes_ref ha hrs x hx q hq
  | .arg j :: res, i, rs, h, x, hx, q, hq => by
    simp only [aRes] at h
    split at h
    case h_2 => cases h
    rename_i r o hp
    simp only [Option.map_eq_some_iff] at h
    obtain ⟨rs', hrs, rfl⟩ := h
    simp only [List.mem_cons] at hx
    rcases hx with rfl | hx
    · simp [SV.refs, S.ref] at hq
      subst hq
      rw [Option.bind_eq_some_iff] at hp
      obtain ⟨y, hy, hy2⟩ := hp
      exact .inl (ha j y q o hy hy2)
    · simpa [aFresh] using aRes_ref ha hrs x hx q hq
  | .slc n :: res, i, rs, h, x, hx, q, hq => by
    simp only [aRes, Option.map_eq_some_iff] at h
    obtain ⟨rs', hrs, rfl⟩ := h
    simp only [List.mem_cons] at hx
    rcases hx with rfl | hx
    · simp [SV.refs, S.ref] at hq
      exact .inr ⟨by simp [aFresh], hq⟩
    · rcases aRes_ref ha hrs x hx q hq with e | ⟨_, e⟩
      · exact .inl e
      · exact .inr ⟨by simp [aFresh], e⟩
  | .agg n :: res, i, rs, h, x, hx, q, hq => by
    simp only [aRes, Option.map_eq_some_iff] at h
    obtain ⟨rs', hrs, rfl⟩ := h
    simp only [List.mem_cons] at hx
    rcases hx with rfl | hx
    · simp [SV.refs, S.ref, List.filterMap_map, Function.comp_def] at hq
    · simpa [aFresh] using aRes_ref ha hrs x hx q hq

theorem aFresh_ref : ∀ {res : List RK} {i : Nat} {cs : List S}, aFresh res i = some cs → ∀ s ∈ cs, s.ref = none
  | [], _, _, h, _, _ => by simp [aFresh] at h
  | .sc _ :: res, i, cs, h, s, hs => aFresh_ref (res := res) (by simpa [aFresh] using h) s hs
  | .arg _ :: res, i, cs, h, s, hs => aFresh_ref (res := res) (by simpa [aFresh] using h) s hs
  | .slc n :: res, i, cs, h, s, hs => by
    simp [aFresh] at h
    subst h
    simp only [List.mem_map] at hs
    obtain ⟨j, _, rfl⟩ := hs
    rfl
  | .agg _ :: res, i, cs, h, s, hs => aFresh_ref (res := res) (by simpa [aFresh] using h) s hs

theorem oneTup_ref {rs : List SV} {sv : SV} (h : oneTup rs = some sv) {q : Nat} (hq : q ∈ sv.refs) : ∃ x ∈ rs, q ∈ x.refs := by
  unfold oneTup at h
  split at h
  · cases h; exact ⟨_, by simp, hq⟩
  · simp only [Option.map_eq_some_iff] at h
    obtain ⟨xs, hxs, rfl⟩ := h
    simp only [SV.refs, List.mem_filterMap] at hq
    obtain ⟨x, hx, hxq⟩ := hq
    obtain ⟨j, hj, hjx⟩ := List.getElem_of_mem hx
    obtain ⟨g1, g2⟩ := mapM_some _ _ _ hxs
    obtain ⟨y, hy, hxy⟩ := g2 j (rs[j]'(by omega)) (by simp)
    have hyx : y = x := by rw [List.getElem?_eq_getElem hj, hjx] at hy; simpa using hy.symm
    subst hyx
    refine ⟨rs[j]'(by omega), List.getElem_mem _, ?_⟩
    cases hr : (rs[j]'(by omega)) with
    | s z => rw [hr] at hxy; simp at hxy; subst hxy; simp [SV.refs, hxq]
    | agg z => rw [hr] at hxy; simp at hxy
    | tup z => rw [hr] at hxy; simp at hxy

theorem absOp_refs {op : Op} {ex : Nat → Prop} (hS : Scoped V op.operands ex) (h : absOp cx P V op = some out) : OutSc out V.nr ex := by
  have hmv : ∀ x ∈ op.operands, ∀ out', aMove V x = some out' → OutSc out' V.nr ex := by
    intro x hx out' h'
    simp only [aMove, Option.map_eq_some_iff] at h'
    obtain ⟨sv, h1, rfl⟩ := h'
    exact OutSc.plain rfl rfl (hS.v x hx sv h1)
  unfold absOp at h
  split at h
  · exact hmv _ (by simp [Op.operands]) _ h
  · exact hmv _ (by simp [Op.operands]) _ h
  · unfold aPick at h
    split at h
    · cases h
    split at h
    · exact hmv _ (by simp [Op.operands]) _ h
    · exact hmv _ (by simp [Op.operands]) _ h
    · split at h
      · split at h
        · cases h; exact OutSc.plain rfl rfl (by simp [SV.refs, S.ref])
        · cases h
      · split at h
        · cases h; exact OutSc.plain rfl rfl (by simp [SV.refs, S.ref])
        · cases h
      · cases h
  · unfold aAlloc at h
    split at h
    · rename_i cs hcs
      cases h
      exact ⟨fun r hr => (by simp [SV.refs, S.ref] at hr; exact .inr ⟨rfl, hr⟩), fun _ _ _ e => (by cases e), fun cs' e s hs q hq => (by cases e; rw [zeroCells_ref hcs s hs] at hq; cases hq)⟩
    · cases h
  · rename_i t x
    unfold aBox at h
    split at h
    · rename_i sv hsv
      split at h
      · rename_i cs hcs
        split at h
        · cases h
          exact ⟨fun r hr => (by simp [SV.refs, S.ref] at hr; exact .inr ⟨rfl, hr⟩), fun _ _ _ e => (by cases e), fun cs' e s hs q hq => (by cases e; exact hS.v x (by simp [Op.operands]) sv hsv q (cells_refs hcs hs hq))⟩
        · cases h
      · cases h
    · cases h
  · rename_i t x
    unfold aLoad at h
    split at h
    case h_2 => cases h
    split at h
    case h_2 => cases h
    rename_i r off hx cs hcs
    split at h
    · split at h
      · simp only [Option.map_eq_some_iff] at h
        obtain ⟨xs, hxs, rfl⟩ := h
        refine OutSc.plain rfl rfl fun q hq => ?_
        simp only [SV.refs, List.mem_filterMap] at hq
        obtain ⟨s, hs, e⟩ := hq
        exact hS.m _ cs hcs s (window_mem hxs hs) q e
      · cases h
    · simp only [Option.map_eq_some_iff] at h
      obtain ⟨s, hs, rfl⟩ := h
      refine OutSc.plain rfl rfl fun q hq => ?_
      simp only [SV.refs, Option.mem_toList] at hq
      exact hS.m _ cs hcs s (List.mem_of_getElem? hs) q hq
    · cases h
  · rename_i t x y
    unfold aStore at h
    split at h
    case h_2 => cases h
    rename_i r off sv hx hy
    split at h
    case h_2 => cases h
    rename_i cs xs n hcs hxs hn
    split at h
    case isFalse => cases h
    cases h
    refine ⟨fun r hr => by simp [SV.refs, S.ref] at hr, fun r' o' cs' e s hs q hq => ?_, fun _ e => by cases e⟩
    cases e
    exact hS.v y (by simp [Op.operands]) sv hy q (cells_refs hxs hs hq)
  · rename_i x
    unfold aNil at h
    split at h
    · rename_i r off hx
      cases h
      exact OutSc.plain rfl rfl (hS.v x (by simp [Op.operands]) _ hx)
    · cases h
  · unfold aBin at h
    split at h
    · have key : ∀ k ex' ey op', aIntC V op' k ex' ey = some out → OutSc out V.nr ex := by
        intro k ex' ey op' h
        have key2 : aInt V op' k ex' ey = some out → OutSc out V.nr ex := by
          intro h
          unfold aInt at h
          split at h
          · split at h <;> first | cases h; done | (simp only [Option.some.injEq] at h; subst h; exact OutSc.plain rfl rfl (by simp [SV.refs, S.ref]))
          · cases h
        unfold aIntC at h
        split at h
        · split at h
          · split at h <;> first | cases h; done | (simp only [Option.some.injEq] at h; subst h; exact OutSc.plain rfl rfl (by simp [SV.refs, S.ref]))
          · cases h
        · exact key2 h
      have key3 : ∀ k yk ex' ey op', aShift V op' k yk ex' ey = some out → OutSc out V.nr ex := by
        intro k yk ex' ey op' h
        unfold aShift at h
        split at h
        · split at h
          · split at h <;> (simp only [Option.some.injEq] at h; subst h; exact OutSc.plain rfl rfl (by simp [SV.refs, S.ref]))
          · simp only [Option.some.injEq] at h; subst h; exact OutSc.plain rfl rfl (by simp [SV.refs, S.ref])
          · cases h
        · cases h
      split at h
      · exact key3 _ _ _ _ _ h
      · exact key3 _ _ _ _ _ h
      · split at h
        · unfold aRem at h
          split at h
          · split at h
            · simp only [Option.some.injEq] at h; subst h; exact OutSc.plain rfl rfl (by simp [SV.refs, S.ref])
            · cases h
          · split at h
            · split at h
              · cases h
              · simp only [Option.some.injEq] at h; subst h; exact OutSc.plain rfl rfl (by simp [SV.refs, S.ref])
            · cases h
          · cases h
        · cases h
      · split at h
        · unfold aQuo at h
          split at h
          · split at h
            · cases h
            · simp only [Option.some.injEq] at h; subst h; exact OutSc.plain rfl rfl (by simp [SV.refs, S.ref])
          · cases h
        · cases h
      · split at h
        · exact key _ _ _ _ h
        · cases h
    · split at h
      · cases h; exact OutSc.plain rfl rfl (by simp [SV.refs, S.ref])
      · cases h
    · split at h
      case h_2 => cases h
      split at h
      case h_2 => cases h
      split at h
      · cases h; exact OutSc.plain rfl rfl (by simp [SV.refs, S.ref])
      · cases h
    · cases h
  · unfold aUn at h
    split at h
    · split at h <;> (cases h; exact OutSc.plain rfl rfl (by simp [SV.refs, S.ref]))
    · split at h
      · cases h; exact OutSc.plain rfl rfl (by simp [SV.refs, S.ref])
      · cases h
    · split at h
      · cases h; exact OutSc.plain rfl rfl (by simp [SV.refs, S.ref])
      · cases h
    · cases h
  · unfold aCnv at h
    split at h
    case h_2 => cases h
    split at h
    case h_2 => cases h
    split at h
    case isFalse => cases h
    split at h <;> (cases h; exact OutSc.plain rfl rfl (by simp [SV.refs, S.ref]))
  · rename_i x i
    unfold aExt at h
    split at h
    · rename_i xs hx
      simp only [Option.map_eq_some_iff] at h
      obtain ⟨s, hs, rfl⟩ := h
      refine OutSc.plain rfl rfl fun q hq => ?_
      simp only [SV.refs, Option.mem_toList] at hq
      exact hS.v x (by simp [Op.operands]) _ hx q (by simp only [SV.refs, List.mem_filterMap]; exact ⟨s, List.mem_of_getElem? hs, hq⟩)
    · cases h
  · rename_i t x ix
    unfold aIdx at h
    split at h
    case h_2 => cases h
    split at h
    · rename_i hx
      split at h
      case h_2 => cases h
      split at h
      case isFalse => cases h
      cases h
      refine OutSc.plain rfl rfl fun q hq => hS.v x (by simp [Op.operands]) _ hx q (by simpa [SV.refs, S.ref] using hq)
    · rename_i hx
      split at h
      case h_2 => cases h
      split at h
      case isFalse => cases h
      cases h
      refine OutSc.plain rfl rfl fun q hq => hS.v x (by simp [Op.operands]) _ hx q (by simpa [SV.refs, S.ref] using hq)
    · cases h
  · rename_i t x
    unfold aSlice at h
    split at h
    · rename_i hx
      split at h
      · cases h
        refine OutSc.plain rfl rfl fun q hq => hS.v x (by simp [Op.operands]) _ hx q (by simpa [SV.refs, S.ref] using hq)
      · cases h
    · cases h
  · unfold aMake at h
    split at h
    case h_2 => cases h
    split at h
    case h_2 => cases h
    rename_i i z hi hz
    split at h
    case isFalse => cases h
    cases h
    refine ⟨fun r hr => (by simp [SV.refs, S.ref] at hr; exact .inr ⟨rfl, hr⟩), fun _ _ _ e => (by cases e), fun cs' e s hs q hq => ?_⟩
    cases e
    rw [List.eq_of_mem_replicate hs, zeroCells_ref hz z (by simp)] at hq
    cases hq
  · rename_i t ps
    unfold aBuild at h
    split at h
    case h_2 => cases h
    rename_i n t' zs ht hz
    split at h
    case h_2 => cases h
    rename_i qs hs hq
    split at h
    case isFalse => cases h
    cases h
    refine OutSc.plain rfl rfl fun q hq' => ?_
    simp only [SV.refs, List.mem_filterMap] at hq'
    obtain ⟨s, hs', e⟩ := hq'
    rcases fillS_mem _ _ _ hs' with h | ⟨p, hp, rfl⟩
    · rw [zeroCells_ref hz s h] at e; cases e
    · obtain ⟨x, hx, hv⟩ := onesAt_mem hq p hp
      exact hS.v x (by simpa [Op.operands] using hx) _ hv q (by simp [SV.refs, e])
  · rename_i t n ps
    unfold aBuildSlice at h
    split at h
    case h_2 => cases h
    split at h
    case h_2 => cases h
    rename_i z qs hs hz hq
    split at h
    case isFalse => cases h
    cases h
    refine ⟨fun r hr => (by simp [SV.refs, S.ref] at hr; exact .inr ⟨rfl, hr⟩), fun _ _ _ e => (by cases e), fun cs' e s hs' q hq' => ?_⟩
    cases e
    rcases fillS_mem _ _ _ hs' with h | ⟨p, hp, rfl⟩
    · rw [List.eq_of_mem_replicate h, zeroCells_ref hz z (by simp)] at hq'; cases hq'
    · obtain ⟨x, hx, hv⟩ := onesAt_mem hq p hp
      exact hS.v x (by simpa [Op.operands] using hx) _ hv q (by simp [SV.refs, hq'])
  · unfold aLen at h
    split at h
    case h_2 => cases h
    split at h
    · cases h; exact OutSc.plain rfl rfl (by simp [SV.refs, S.ref])
    · cases h
  · unfold aMaxMin at h
    split at h
    case h_2 => cases h
    split at h
    case h_2 => cases h
    split at h
    · cases h; exact OutSc.plain rfl rfl (by simp [SV.refs, S.ref])
    · cases h
  · unfold aMaxMin at h
    split at h
    case h_2 => cases h
    split at h
    case h_2 => cases h
    split at h
    · cases h; exact OutSc.plain rfl rfl (by simp [SV.refs, S.ref])
    · cases h
  · rename_i f as ats
    split at h
    case h_2 => cases h
    rename_i s hs
    unfold aCallS at h
    split at h
    case h_1 => cases h
    rename_i rs hrs
    have ha : ∀ (i : Nat) y q o, rs[i]? = some y → y.2 = some (q, o) → ex q := by
      intro i y q o hy hq
      obtain ⟨x, hx, sv, hv, hr⟩ := aArgs_ref hrs i y q o hy hq
      exact hS.v x (by simp only [Op.operands, Call.operands]; simp at hx ⊢; exact .inr hx) sv hv q hr
    simp only at h
    split at h
    case h_1 => cases h
    rename_i res hres
    split at h
    case h_1 => cases h
    rename_i sv hsv
    split at h
    case isFalse => cases h
    have hsvr : ∀ r ∈ sv.refs, ex r ∨ ((aFresh s.res (V.nv + wrLen s)).isSome = true ∧ r = V.nr) := by
      intro q hq
      obtain ⟨x, hx, hxq⟩ := oneTup_ref hsv hq
      exact aRes_ref ha hres x hx q hxq
    split at h
    · cases h
      exact ⟨hsvr, fun _ _ _ e => (by cases e), fun cs e s' hs' q hq => (by rw [aFresh_ref e s' hs'] at hq; cases hq)⟩
    · split at h
      case h_2 => cases h
      split at h
      case isFalse => cases h
      cases h
      refine ⟨hsvr, fun r o cs e s' hs' q hq => ?_, fun cs e s' hs' q hq => by rw [aFresh_ref e s' hs'] at hq; cases hq⟩
      cases e
      simp only [List.mem_map] at hs'
      obtain ⟨j, _, rfl⟩ := hs'
      cases hq
  · rename_i t x ix
    unfold aIdv at h
    split at h
    case h_2 => cases h
    split at h
    case h_2 => cases h
    rename_i xs _ hx
    split at h
    case h_2 => cases h
    split at h
    case isFalse => cases h
    simp only [Option.map_eq_some_iff] at h
    obtain ⟨s, hs, rfl⟩ := h
    refine OutSc.plain rfl rfl fun q hq => ?_
    simp only [SV.refs, Option.mem_toList] at hq
    exact hS.v x (by simp [Op.operands]) _ hx q (by simp only [SV.refs, List.mem_filterMap]; exact ⟨s, List.mem_of_getElem? hs, hq⟩)
  · cases h

/-- Where an operation writes: a known row, within it, that may be written. -/
theorem absOp_wr {op : Op} (h : absOp cx P V op = some out) {r o : Nat} {cs : List S} (hw : out.wr = some (r, o, cs)) :
    (∃ xs, V.rd r = some xs ∧ o + cs.length ≤ xs.length) ∧ cx.writable r = true := by
  have no : out.wr = none → False := fun e => by rw [e] at hw; cases hw
  unfold absOp at h
  split at h
  case h_7 t x y =>
    unfold aStore at h
    split at h
    case h_2 => cases h
    split at h
    case h_2 => cases h
    rename_i cs' xs n hcs hxs hn
    split at h
    case isFalse => cases h
    rename_i hif
    obtain ⟨h1, h2, h3, _⟩ := hif
    cases h
    cases hw
    exact ⟨⟨cs', hcs, by omega⟩, h3⟩
  case h_21 f as ats =>
    split at h
    case h_2 => cases h
    rename_i s hs
    unfold aCallS at h
    split at h
    case h_1 => cases h
    rename_i rs hrs
    simp only at h
    split at h
    case h_1 => cases h
    split at h
    case h_1 => cases h
    split at h
    case isFalse => cases h
    split at h
    · cases h; cases hw
    · rename_i i hwr
      split at h
      case h_2 => cases h
      rename_i n r' off hsi hri
      split at h
      case isFalse => cases h
      rename_i hif
      cases h
      cases hw
      refine ⟨?_, hif.1⟩
      rw [Option.bind_eq_some_iff] at hri
      obtain ⟨y, hy, hy2⟩ := hri
      have key : ∀ {ks : List AK} {xs : List Operand} {rs : List (List E × Option (Nat × Nat))}, aArgs V ks xs = some rs → ∀ (i : Nat) y n q o, rs[i]? = some y → ks[i]? = some (.ptr n) → y.2 = some (q, o) →
          ∃ cs, V.rd q = some cs ∧ o + n ≤ cs.length := by
        intro ks
        induction ks with
        | nil => intro xs rs h i y n q o hy hk; simp at hk
        | cons k ks ih =>
          intro xs rs h i y n q o hy hk hq
          cases xs with
          | nil => simp [aArgs] at h
          | cons x xs =>
            unfold aArgs at h
            split at h
            case h_2 => cases h
            rename_i r0 rs' hr hrs
            cases h
            cases i with
            | zero =>
              simp at hy hk
              subst hy hk
              unfold aArg at hr
              split at hr
              all_goals first | (rename_i heq _; cases heq; done) | skip
              · rename_i heq _
                cases heq
                split at hr
                case h_2 => cases hr
                rename_i cs hcs
                split at hr
                case h_2 => cases hr
                rename_i xs' hxs
                simp only [Option.map_eq_some_iff] at hr
                obtain ⟨es, _, rfl⟩ := hr
                cases hq
                exact ⟨cs, hcs, (window_spec hxs).2.1⟩
              · cases hr
            | succ i => exact ih hrs i y n q o (by simpa using hy) (by simpa using hk) hq
      obtain ⟨cs', hcs', hle⟩ := key hrs i y n _ _ hy hsi hy2
      exact ⟨cs', hcs', by simpa using hle⟩
  all_goals
    exfalso
    apply no
    clear hw no
    first
      | (simp only [aMove, Option.map_eq_some_iff] at h; obtain ⟨_, _, rfl⟩ := h; rfl)
      | cases h; done
      | (unfold aPick aMove at h; (repeat' split at h) <;> first | (cases h; done) | (cases h; rfl) | (simp only [Option.map_eq_some_iff] at h; obtain ⟨_, _, rfl⟩ := h; rfl))
      | (first | unfold aAlloc at h | unfold aBox at h | unfold aLoad at h | unfold aNil at h | unfold aBin aShift aRem aQuo aIntC aInt at h | unfold aUn at h | unfold aCnv at h | unfold aExt at h | unfold aIdx at h | unfold aIdv at h | unfold aSlice at h | unfold aMake at h | unfold aBuild at h | unfold aBuildSlice at h | unfold aLen at h | unfold aMaxMin at h
         (repeat' split at h) <;> first | (cases h; done) | (cases h; rfl) | (simp only [Option.map_eq_some_iff] at h; obtain ⟨_, _, rfl⟩ := h; rfl))

end
end Go.Sym
