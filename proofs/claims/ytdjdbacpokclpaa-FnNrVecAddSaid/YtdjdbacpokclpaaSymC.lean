/- Symbolic runs of straight Go code over the model: one operation is carried out as it is reckoned. -/
import Derived.Test.YtdjdbacpokclpaaSymB
import Derived.Laws.Cells
import Derived.Laws.Rows
import Derived.Laws.Bits
namespace Go.Sym

theorem E.den_v (ρ : Nat → Int) (i : Nat) : (E.v i).den ρ = ρ i := rfl
theorem E.den_c (ρ : Nat → Int) (n : Int) : (E.c n).den ρ = n := rfl

structure MemOK (cx : Cx) (rd : Nat → Option (List S)) (ρ : Nat → Int) (β : Nat → Nat × Nat) (w : World) : Prop where
  cell : ∀ r cs, rd r = some cs → ∀ (j : Nat) s, cs[j]? = some s → w.cell? ⟨(β r).1, (β r).2 + j, none⟩ = some (s.den ρ β)
  free : ∀ r cs, rd r = some cs → cx.writable r = true → ∀ j, j < cs.length → w.frozen? ⟨(β r).1, (β r).2 + j, none⟩ = false
  apart : ∀ r cs r' cs', rd r = some cs → rd r' = some cs' → r ≠ r' → cx.writable r = true → (β r).1 ≠ (β r').1 ∨ (β r).2 + cs.length ≤ (β r').2 ∨ (β r').2 + cs'.length ≤ (β r).2

structure ViewOK (V : View) (ρ : Nat → Int) (β : Nat → Nat × Nat) (a : Act) (os : Array Operand) : Prop where
  hv : ∀ x ∈ os, ∀ sv, V.v x = some sv → a.eval x = sv.den ρ β
  kd : ∀ i k, V.kd i = some k → k.holds (ρ i)
  dec : ∀ e b, V.dec e = some b → (!(e.den ρ == 0)) = b

def InsOK (Φ : Nat → List Int → List Int) (ρ : Nat → Int) (nv : Nat) (ins : List (K × I)) : Prop :=
  ∀ j k i, ins[j]? = some (k, i) → ρ (nv + j) = i.val Φ ρ ∧ k.holds (ρ (nv + j))

def outSet (β : Nat → Nat × Nat) (wr : Option (Nat × Nat × List S)) (b o : Nat) : Prop :=
  match wr with
  | some (r, off, cs) => b = (β r).1 ∧ (β r).2 + off ≤ o ∧ o < (β r).2 + off + cs.length
  | none => False

structure Eff (out : Out) (nr : Nat) (ρ : Nat → Int) (β : Nat → Nat × Nat) (w : World) (β' : Nat → Nat × Nat) (w' : World) : Prop where
  keeps : Keeps w w' (outSet β out.wr)
  wrc : ∀ r off cs, out.wr = some (r, off, cs) → ∀ (j : Nat) s, cs[j]? = some s → w'.cell? ⟨(β r).1, (β r).2 + off + j, none⟩ = some (s.den ρ β)
  frc : ∀ cs, out.fr = some cs → w.heap.size ≤ (β' nr).1 ∧ (β' nr).1 < w'.heap.size ∧ (β' nr).2 = 0 ∧ (∀ (j : Nat) s, cs[j]? = some s → w'.cell? ⟨(β' nr).1, (β' nr).2 + j, none⟩ = some (s.den ρ β)) ∧
    ∀ j, j < cs.length → w'.frozen? ⟨(β' nr).1, (β' nr).2 + j, none⟩ = false
  bet : ∀ r, r ≠ nr → β' r = β r
  same : out.fr = none → β' = β

theorem Eff.pure {out : Out} (hw : out.wr = none) (hf : out.fr = none) (nr : Nat) (ρ : Nat → Int) (β : Nat → Nat × Nat) (w : World) : Eff out nr ρ β w β w :=
  ⟨(by rw [hw]; exact Keeps.refl _ _), fun _ _ _ h => (by rw [hw] at h; cases h), fun _ h => (by rw [hf] at h; cases h), fun _ _ => rfl, fun _ => rfl⟩

/-- What is to be shown of one operation. -/
def Runs (P : Program) (o : Oper) (a : Act) (w : World) (ρ : Nat → Int) (β : Nat → Nat × Nat) (nr : Nat) (out : Out) : Prop :=
  ∀ (K : Act → World → Prop) (Q : Exit → Act → World → Prop), (∀ β' w', Eff out nr ρ β w β' w' → K (a.put o.dst (out.sv.den ρ β')) w') → o.wp P a w K Q

section
variable {P : Program} {cx : Cx} {Φ : Nat → List Int → List Int} {ρ : Nat → Int} {β : Nat → Nat × Nat} {V : View} {o : Oper} {a : Act} {w : World} {out : Out}

theorem runs_value {v : Value} {w' : World} (h : (execOp a.eval o).run P w = .ok (.value v) w') {nr : Nat} {β' : Nat → Nat × Nat} (hv : out.sv.den ρ β' = v) (he : Eff out nr ρ β w β' w') :
    Runs P o a w ρ β nr out := by
  intro K Q hK
  unfold Oper.wp
  rw [h, Oper.upon_value, ← hv]
  exact hK _ _ he

theorem runs_pure {v : Value} (h : (execOp a.eval o).run P w = .ok (.value v) w) {nr : Nat} (hv : out.sv.den ρ β = v) (hw : out.wr = none) (hf : out.fr = none) :
    Runs P o a w ρ β nr out := runs_value h hv (Eff.pure hw hf _ _ _ _)

theorem kdE_holds (hk : ∀ i k, V.kd i = some k → k.holds (ρ i)) {e : E} {k : K} (h : V.kdE e k = true) : k.holds (e.den ρ) := by
  cases e with
  | c n => exact K.holds_of_okB h
  | v i =>
    simp only [View.kdE] at h
    split at h
    · rename_i k' hk'; exact K.holds_le h (hk i k' hk')
    · cases h

/-! ### move, pick -/
theorem runs_move {x : Operand} (ho : o.op = .move x ∨ o.op = .assign x) (hV : ViewOK V ρ β a o.op.operands) (h : aMove V x = some out) (nr : Nat) : Runs P o a w ρ β nr out := by
  simp only [aMove, Option.map_eq_some_iff] at h
  obtain ⟨sv, h1, rfl⟩ := h
  refine runs_pure (v := a.eval x) ?_ ?_ rfl rfl
  · rcases ho with ho | ho <;> simp [execOp, ho]
  · exact (hV.hv x (by rcases ho with ho | ho <;> simp [ho, Op.operands]) sv h1).symm

theorem View.bool_some {V : View} {x : Operand} {e : E} (h : V.bool x = some e) : V.v x = some (.s (.bool e)) := by
  unfold View.bool at h
  split at h <;> simp_all
theorem View.int_some {V : View} {x : Operand} {k : IntKind} {e : E} (h : V.int x = some (k, e)) : V.v x = some (.s (.int k e)) := by
  unfold View.int at h
  split at h <;> simp_all

theorem insOK_one {nv : Nat} {k : K} {i : I} (h : InsOK Φ ρ nv [(k, i)]) : ρ nv = i.val Φ ρ ∧ k.holds (ρ nv) := by
  have := h 0 k i rfl
  simpa using this

theorem runs_pick {c x y : Operand} (ho : o.op = .pick c x y) (hV : ViewOK V ρ β a o.op.operands) (h : aPick V c x y = some out) (hI : InsOK Φ ρ V.nv out.ins) (nr : Nat) : Runs P o a w ρ β nr out := by
  have hop : ∀ z, z = c ∨ z = x ∨ z = y → z ∈ o.op.operands := fun z hz => by simpa [ho, Op.operands] using hz
  unfold aPick at h
  split at h
  · cases h
  rename_i e he
  have hc := hV.hv c (hop c (by simp)) _ (View.bool_some he)
  simp only [SV.den, S.den] at hc
  split at h
  · rename_i hd
    have hd' := hV.dec _ _ hd
    simp only [aMove, Option.map_eq_some_iff] at h
    obtain ⟨sv, h1, rfl⟩ := h
    refine runs_pure (v := a.eval x) ?_ ((hV.hv x (hop x (by simp)) sv h1).symm) rfl rfl
    simp [execOp, ho, asBool, hc, hd']
  · rename_i hd
    have hd' := hV.dec _ _ hd
    simp only [aMove, Option.map_eq_some_iff] at h
    obtain ⟨sv, h1, rfl⟩ := h
    refine runs_pure (v := a.eval y) ?_ ((hV.hv y (hop y (by simp)) sv h1).symm) rfl rfl
    simp [execOp, ho, asBool, hc, hd']
  · split at h
    · rename_i ex ey hx hy
      split at h
      · cases h
        have hx' := hV.hv x (hop x (by simp)) _ hx
        have hy' := hV.hv y (hop y (by simp)) _ hy
        simp only [SV.den, S.den] at hx' hy'
        obtain ⟨hI1, _⟩ := insOK_one hI
        refine runs_pure (v := if (!(e.den ρ == 0)) = true then a.eval x else a.eval y) ?_ ?_ rfl rfl
        · simp [execOp, ho, asBool, hc]
        · simp only [SV.den, S.den, E.den_v, hI1, I.val, hx', hy']
          by_cases h0 : e.den ρ = 0 <;> simp [h0]
      · cases h
    · rename_i k ex k' ey hx hy
      split at h
      · rename_i hk
        obtain ⟨rfl, _, _⟩ := hk
        cases h
        have hx' := hV.hv x (hop x (by simp)) _ hx
        have hy' := hV.hv y (hop y (by simp)) _ hy
        simp only [SV.den, S.den] at hx' hy'
        obtain ⟨hI1, _⟩ := insOK_one hI
        refine runs_pure (v := if (!(e.den ρ == 0)) = true then a.eval x else a.eval y) ?_ ?_ rfl rfl
        · simp [execOp, ho, asBool, hc]
        · simp only [SV.den, S.den, E.den_v, hI1, I.val, hx', hy']
          by_cases h0 : e.den ρ = 0 <;> simp [h0]
      · cases h
    · cases h

/-! ### new memory -/
theorem mapM_some {α γ : Type} (f : α → Option γ) : ∀ (l : List α) (r : List γ), l.mapM f = some r → r.length = l.length ∧ ∀ (j : Nat) x, l[j]? = some x → ∃ y, r[j]? = some y ∧ f x = some y
  | [], r, h => by simp at h; subst h; exact ⟨rfl, fun j x hx => by simp at hx⟩
  | x :: l, r, h => by
    rw [List.mapM_cons] at h
    simp only [Option.bind_eq_bind, Option.pure_def, Option.bind_eq_some_iff] at h
    obtain ⟨y, hy, ys, hys, hr⟩ := h
    cases hr
    obtain ⟨h1, h2⟩ := mapM_some f l ys hys
    refine ⟨by simp [h1], fun j z hz => ?_⟩
    cases j with
    | zero => simp at hz; subst hz; exact ⟨y, by simp, hy⟩
    | succ j => simp at hz; obtain ⟨y', e1, e2⟩ := h2 j z hz; exact ⟨y', by simpa using e1, e2⟩

theorem ofVals_den {vs : List Value} {cs : List S} (h : vs.mapM S.ofVal = some cs) (ρ : Nat → Int) (β : Nat → Nat × Nat) : vs = cs.map (S.den ρ β) := by
  obtain ⟨h1, h2⟩ := mapM_some _ _ _ h
  apply List.ext_getElem?
  intro j
  rw [List.getElem?_map]
  cases hj : vs[j]? with
  | none =>
    have : cs[j]? = none := by rw [List.getElem?_eq_none_iff] at *; omega
    simp [this]
  | some x =>
    obtain ⟨y, hy, e⟩ := h2 j x hj
    simp [hy, (S.ofVal_den e ρ β).1]

theorem heap_push_new (w : World) (ob : Obj) : (w.alloc ob).heap[w.heap.size]? = some ob := heap_alloc_new w ob

theorem eff_fresh {cs : List S} (hfr : out.fr = some cs) (hwr : out.wr = none) (nr : Nat) (β : Nat → Nat × Nat) (w : World) (t : TypeId) :
    Eff out nr ρ β w (fun r => if r = nr then (w.heap.size, 0) else β r) (w.alloc (.cells (cs.map (S.den ρ β)).toArray t)) := by
  refine ⟨?_, fun _ _ _ h => (by rw [hwr] at h; cases h), fun cs' h => ?_, fun r hr => (by simp [hr]), fun h => (by rw [hfr] at h; cases h)⟩
  · rw [hwr]; exact Keeps.alloc w _ _
  · rw [hfr] at h
    cases h
    refine ⟨by simp, by simp, by simp, fun j s hs => ?_, fun j hj => ?_⟩
    · simp only [if_true, Nat.zero_add]
      rw [World.cell?_alloc_new]
      simp [hs]
    · simp only [if_true, Nat.zero_add]
      exact World.frozen?_alloc_new w _ t j

theorem zeroCells_run {t : TypeId} {cs : List S} (h : zeroCells P t = some cs) : ∃ z, (∀ w, (zeroValue t).run P w = .ok z w) ∧ z.cells.toList = cs.map (S.den ρ β) := by
  unfold zeroCells at h
  split at h
  · rename_i i hi
    split at h
    · rename_i z hz
      exact ⟨z, fun w => by simp [zeroValue, typeInfo, hi, hz], ofVals_den h ρ β⟩
    · cases h
  · cases h

theorem runs_alloc {t : TypeId} (ho : o.op = .alloc t) (h : aAlloc P V t = some out) : Runs P o a w ρ β V.nr out := by
  unfold aAlloc at h
  split at h
  · rename_i cs hcs
    cases h
    obtain ⟨z, hz, hzc⟩ := zeroCells_run (ρ := ρ) (β := β) hcs
    have hzc' : z.cells = (cs.map (S.den ρ β)).toArray := by rw [← hzc]
    refine runs_value (w' := w.alloc (.cells z.cells t)) (v := .pointer (some ⟨w.heap.size, 0, none⟩)) ?_ (β' := fun r => if r = V.nr then (w.heap.size, 0) else β r) ?_ ?_
    · simp [execOp, ho, Instr.alloc, hz, newVar, newRow]
    · simp [SV.den, S.den]
    · rw [hzc']; exact eff_fresh rfl rfl _ _ _ _
  · cases h

theorem runs_box {t : TypeId} {x : Operand} (ho : o.op = .box t x) (hV : ViewOK V ρ β a o.op.operands) (h : aBox V x = some out) : Runs P o a w ρ β V.nr out := by
  unfold aBox at h
  split at h
  · rename_i sv hsv
    split at h
    · rename_i cs hcs
      split at h
      · cases h
        have hx := hV.hv x (by simp [ho, Op.operands]) _ hsv
        obtain ⟨hc, _⟩ := SV.cells_den hcs ρ β
        refine runs_value (w' := w.alloc (.cells (a.eval x).cells t)) (v := .pointer (some ⟨w.heap.size, 0, none⟩)) ?_ (β' := fun r => if r = V.nr then (w.heap.size, 0) else β r) ?_ ?_
        · simp [execOp, ho, Instr.box, newVar, newRow]
        · simp [SV.den, S.den]
        · rw [hx, hc]; exact eff_fresh rfl rfl _ _ _ _
      · cases h
    · cases h
  · cases h

/-! ### load, store -/
theorem isAggB_run {t : TypeId} {b : Bool} (h : isAggB P t = some b) (w : World) : (isAgg t).run P w = .ok b w := by
  unfold isAggB at h
  split at h
  · rename_i h1; simp at h; subst h; simp [isAgg, underlying, h1]
  · rename_i h1; simp at h; subst h; simp [isAgg, underlying, h1]
  · rename_i d n1 n2 h1
    simp at h; subst h
    have hd : ∀ fs, d ≠ .struct fs := fun fs e => (by subst e; exact n1 fs rfl)
    have hd2 : ∀ n e', d ≠ .array n e' := fun n e' e => (by subst e; exact n2 n e' rfl)
    cases d <;> simp_all [isAgg, underlying]
  · cases h

theorem sizeB_run {t : TypeId} {n : Nat} (h : sizeB P t = some n) (w : World) : (sizeOf t).run P w = .ok n w := by
  simp only [sizeB, Option.map_eq_some_iff] at h
  obtain ⟨i, hi, rfl⟩ := h
  simp [sizeOf, typeInfo, hi]

theorem window_spec {cs xs : List S} {off n : Nat} (h : window cs off n = some xs) : xs.length = n ∧ off + n ≤ cs.length ∧ ∀ (j : Nat) s, xs[j]? = some s → cs[off + j]? = some s := by
  unfold window at h
  split at h
  · cases h
    rename_i hle
    refine ⟨by simp; omega, hle, fun j s hs => ?_⟩
    rw [List.getElem?_take] at hs
    split at hs
    · simpa using hs
    · cases hs
  · cases h

theorem addr_add (b off j : Nat) : Addr.add ⟨b, off, none⟩ j = ⟨b, off + j, none⟩ := Addr.add_lit b off j

theorem runs_load {t : TypeId} {x : Operand} (ho : o.op = .load t x) (hV : ViewOK V ρ β a o.op.operands) (hM : MemOK cx V.rd ρ β w) (h : aLoad P V t x = some out) (nr : Nat) : Runs P o a w ρ β nr out := by
  unfold aLoad at h
  split at h
  case h_2 => cases h
  rename_i r off hx
  have hx' := hV.hv x (by simp [ho, Op.operands]) _ hx
  simp only [SV.den, S.den] at hx'
  split at h
  case h_2 => cases h
  rename_i cs hcs
  split at h
  · rename_i hag
    split at h
    · rename_i n hn
      simp only [Option.map_eq_some_iff] at h
      obtain ⟨xs, hxs, rfl⟩ := h
      obtain ⟨h1, h2, h3⟩ := window_spec hxs
      have hrun : (loadCells ⟨(β r).1, (β r).2 + off, none⟩ n).run P w = .ok ((xs.map (S.den ρ β)).toArray) w := by
        have := run_loadCells_list (P := P) (w := w) ⟨(β r).1, (β r).2 + off, none⟩ (xs.map (S.den ρ β)) (fun j v hj => by
          rw [List.getElem?_map, Option.map_eq_some_iff] at hj
          obtain ⟨s, hs, rfl⟩ := hj
          rw [addr_add, Nat.add_assoc]
          exact hM.cell r cs hcs (off + j) s (h3 j s hs))
        simpa [h1] using this
      refine runs_pure (v := .agg (xs.map (S.den ρ β)).toArray) ?_ rfl rfl rfl
      simp [execOp, ho, Instr.loadAt, hx', Instr.sureAddr, loadVar, isAggB_run hag, sizeB_run hn, hrun]
    · cases h
  · rename_i hag
    simp only [Option.map_eq_some_iff] at h
    obtain ⟨s, hs, rfl⟩ := h
    have hc := hM.cell r cs hcs off s hs
    refine runs_pure (v := s.den ρ β) ?_ rfl rfl rfl
    simp [execOp, ho, Instr.loadAt, hx', Instr.sureAddr, loadVar, isAggB_run hag, hc]
  · cases h

theorem oneCell_plain {s : S} (h : s.plain = true) : (s.den ρ β).oneCell' = true := by
  cases s <;> simp [S.plain, S.den, Value.oneCell'] at *

theorem run_storeCells : ∀ (xs : List S) (w : World) (b off i : Nat), (∀ s ∈ xs, s.plain = true) →
    (∀ j, j < xs.length → (w.cell? ⟨b, off + (i + j), none⟩).isSome = true ∧ w.frozen? ⟨b, off + (i + j), none⟩ = false) →
    ∃ w', (storeCells ⟨b, off, none⟩ (xs.map (S.den ρ β)) i).run P w = .ok () w' ∧ Keeps w w' (fun b' o' => b' = b ∧ off + i ≤ o' ∧ o' < off + i + xs.length) ∧
      (∀ (j : Nat) s, xs[j]? = some s → w'.cell? ⟨b, off + i + j, none⟩ = some (s.den ρ β))
  | [], w, b, off, i, _, _ => ⟨w, by simp [storeCells], Keeps.refl _ _, fun j s hs => by simp at hs⟩
  | x :: xs, w, b, off, i, hp, hc => by
    obtain ⟨h1, h2⟩ := hc 0 (by simp)
    simp only [Nat.add_zero] at h1 h2
    obtain ⟨v0, hv0⟩ := Option.isSome_iff_exists.1 h1
    have hset := World.cell?_setCell_same w ⟨b, off + i, none⟩ (x.den ρ β) hv0
    obtain ⟨w', hrun, hkeep, hcells⟩ := run_storeCells xs (w.setCell ⟨b, off + i, none⟩ (x.den ρ β)) b off (i + 1) (fun s hs => hp s (by simp [hs])) (fun j hj => by
      obtain ⟨g1, g2⟩ := hc (j + 1) (by simp; omega)
      have e : off + (i + 1 + j) = off + (i + (j + 1)) := by omega
      rw [e]
      refine ⟨?_, by simpa using g2⟩
      rw [World.cell?_setCell_other]
      · exact g1
      · simp)
    refine ⟨w', ?_, ?_, ?_⟩
    · have hst := run_store P w ⟨b, off + i, none⟩ (x.den ρ β) .plain (oneCell_plain (hp x (by simp)))
      simp only [hv0, h2] at hst
      simp [storeCells, addr_add, hst, hrun]
    · refine (Keeps.setCell w b (off + i) _ _ ?_).trans hkeep (fun b' j' _ hS => hS) (fun b' j' _ hS => ?_)
      · refine ⟨rfl, Nat.le_refl _, ?_⟩
        simp only [List.length_cons]; omega
      · obtain ⟨h1, h2, h3⟩ := hS
        refine ⟨h1, by omega, ?_⟩
        simp only [List.length_cons]; omega
    · intro j s hs
      cases j with
      | zero =>
        simp at hs; subst hs
        rw [Nat.add_zero, hkeep.cell]
        · exact hset
        · rw [World.size_setCell]; exact cell_lt hv0
        · omega
      | succ j =>
        simp at hs
        have := hcells j s hs
        have e : off + (i + 1) + j = off + i + (j + 1) := by omega
        rwa [e] at this

theorem runs_store {t : TypeId} {x y : Operand} (ho : o.op = .store t x y) (hV : ViewOK V ρ β a o.op.operands) (hM : MemOK cx V.rd ρ β w) (h : aStore cx P V t x y = some out) (nr : Nat) : Runs P o a w ρ β nr out := by
  unfold aStore at h
  split at h
  case h_2 => cases h
  rename_i r off sv hx hy
  have hx' := hV.hv x (by simp [ho, Op.operands]) _ hx
  have hy' := hV.hv y (by simp [ho, Op.operands]) _ hy
  simp only [SV.den, S.den] at hx'
  split at h
  case h_2 => cases h
  rename_i cs xs n hcs hxs hn
  split at h
  case isFalse => cases h
  rename_i hif
  obtain ⟨hlen, hle, hw, hpl⟩ := hif
  cases h
  obtain ⟨hc, _⟩ := SV.cells_den hxs ρ β
  obtain ⟨w', hrun, hkeep, hcells⟩ := run_storeCells (P := P) (ρ := ρ) (β := β) xs w (β r).1 ((β r).2 + off) 0 (by simpa using hpl) (fun j hj => by
    have hlt : off + j < cs.length := by omega
    have e : (β r).2 + off + (0 + j) = (β r).2 + (off + j) := by omega
    rw [e]
    exact ⟨by rw [hM.cell r cs hcs (off + j) cs[off + j] (by simp [hlt])]; rfl, hM.free r cs hcs hw _ hlt⟩)
  intro K Q hK
  unfold Oper.wp
  have hex : (execOp a.eval o).run P w = .ok .skip w' := by
    simp [execOp, ho, Instr.storeAt, hx', Instr.sureAddr, storeVar, hy', hc, sizeB_run hn, hlen, hrun]
  rw [hex, Oper.upon_skip]
  refine hK β w' ⟨?_, ?_, fun _ h => (by cases h), fun _ _ => rfl, fun _ => rfl⟩
  · have e : outSet β (some (r, off, xs)) = fun b o => b = (β r).1 ∧ (β r).2 + off + 0 ≤ o ∧ o < (β r).2 + off + 0 + xs.length := by funext b o; rfl
    show Keeps w w' (outSet β (some (r, off, xs)))
    rw [e]; exact hkeep
  · intro r' off' cs' h j s hs
    cases h
    simpa using hcells j s hs

theorem runs_nil {x : Operand} (ho : o.op = .nilCheck x) (hV : ViewOK V ρ β a o.op.operands) (h : aNil V x = some out) (nr : Nat) : Runs P o a w ρ β nr out := by
  unfold aNil at h
  split at h
  · rename_i r off hx
    cases h
    have hx' := hV.hv x (by simp [ho, Op.operands]) _ hx
    simp only [SV.den, S.den] at hx'
    refine runs_pure (v := a.eval x) ?_ hx'.symm rfl rfl
    simp [execOp, ho, hx']
  · cases h

end
end Go.Sym
