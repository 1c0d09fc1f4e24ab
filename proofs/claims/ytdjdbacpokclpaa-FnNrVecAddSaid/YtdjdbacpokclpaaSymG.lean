/- Symbolic runs of straight Go code over the model: states; one operation turns a state that fits into one that fits. -/
import Derived.Test.YtdjdbacpokclpaaSymF
namespace Go.Sym

def alook {α : Type} : List (Nat × α) → Nat → Option α
  | [], _ => none
  | (k, x) :: l, t => if k == t then some x else alook l t

def splice (cs : List S) (o : Nat) (xs : List S) : List S := cs.take o ++ xs ++ cs.drop (o + xs.length)

theorem splice_length {cs xs : List S} {o : Nat} (h : o + xs.length ≤ cs.length) : (splice cs o xs).length = cs.length := by
  simp [splice]; omega

theorem splice_get {cs xs : List S} {o : Nat} (h : o + xs.length ≤ cs.length) (j : Nat) : (splice cs o xs)[j]? = if o ≤ j ∧ j < o + xs.length then xs[j - o]? else cs[j]? := by
  have ht : (cs.take o).length = o := by simp; omega
  unfold splice
  by_cases h1 : j < o
  · rw [if_neg (by omega), List.append_assoc, List.getElem?_append_left (by omega), List.getElem?_take, if_pos h1]
  · by_cases h2 : j < o + xs.length
    · rw [if_pos (by omega), List.append_assoc, List.getElem?_append_right (by omega), List.getElem?_append_left (by omega), ht]
    · rw [if_neg (by omega), List.getElem?_append_right (by simp; omega), List.getElem?_drop]
      congr 1
      simp
      omega

theorem splice_mem {cs xs : List S} {o : Nat} {s : S} (h : s ∈ splice cs o xs) : s ∈ cs ∨ s ∈ xs := by
  simp only [splice, List.mem_append] at h
  rcases h with (h | h) | h
  · exact .inl (List.mem_of_mem_take h)
  · exact .inr h
  · exact .inl (List.mem_of_mem_drop h)

def opv (slots : List (Nat × SV)) : Operand → Option SV
  | .tmp t => alook slots t
  | .const c => (S.ofVal c).map .s
  | _ => none

/-- What does not change on a walk. -/
structure Env where
  cx : Cx
  sz : Nat
  alen : Nat → Nat
  β0 : Nat → Nat × Nat
  w0 : World
  dfr : List Deferred

def Env.S0 (E : Env) (b o : Nat) : Prop := ∃ r, r ∈ E.cx.wl ∧ r < E.cx.narg ∧ b = (E.β0 r).1 ∧ (E.β0 r).2 ≤ o ∧ o < (E.β0 r).2 + E.alen r

structure Good (E : Env) (slots : List (Nat × SV)) (mem : List (Nat × List S)) (ρ : Nat → Int) (β : Nat → Nat × Nat) (a : Act) (w : World) : Prop where
  size : a.tmps.size = E.sz
  dfr : a.defers = E.dfr
  sok : ∀ t sv, alook slots t = some sv → a.tmps.getD t undef = sv.den ρ β ∧ ∀ r ∈ sv.refs, (alook mem r).isSome = true
  mok : MemOK E.cx (alook mem) ρ β w
  msc : ∀ r cs, alook mem r = some cs → ∀ s ∈ cs, ∀ q, s.ref = some q → (alook mem q).isSome = true
  keeps : Keeps E.w0 w E.S0
  fresh : ∀ r, (alook mem r).isSome = true → E.cx.narg ≤ r → E.w0.heap.size ≤ (β r).1 ∧ (β r).2 = 0
  args : ∀ r, r < E.cx.narg → β r = E.β0 r
  blk : ∀ r, (alook mem r).isSome = true → (β r).1 < w.heap.size
  lens : ∀ r cs, r < E.cx.narg → alook mem r = some cs → cs.length ≤ E.alen r

/-- What an operation makes of the memory that is known. -/
def memEff (out : Out) (nr : Nat) (m : Nat → Option (List S)) (r : Nat) : Option (List S) :=
  match out.fr with
  | some cs => if r = nr then some cs else match out.wr with
    | some (r', o, xs) => if r = r' then (m r).map fun c => splice c o xs else m r
    | none => m r
  | none => match out.wr with
    | some (r', o, xs) => if r = r' then (m r).map fun c => splice c o xs else m r
    | none => m r

section
variable {P : Program} {E : Env} {Φ : Nat → List Int → List Int} {ρ : Nat → Int} {β : Nat → Nat × Nat} {V : View} {o : Oper} {a : Act} {w : World} {out : Out}
  {slots slots' : List (Nat × SV)} {mem mem' : List (Nat × List S)}

theorem opv_ok (hG : Good E slots mem ρ β a w) {x : Operand} {sv : SV} (h : opv slots x = some sv) : a.eval x = sv.den ρ β ∧ ∀ r ∈ sv.refs, (alook mem r).isSome = true := by
  cases x with
  | tmp t => exact hG.sok t sv h
  | const c =>
    simp only [opv, Option.map_eq_some_iff] at h
    obtain ⟨s, hs, rfl⟩ := h
    obtain ⟨h1, h2⟩ := S.ofVal_den hs ρ β
    exact ⟨h1.symm, by simp [SV.refs, h2]⟩
  | global g => simp [opv] at h
  | func f => simp [opv] at h

theorem put_get {a : Act} {d : Nat} {v : Value} {t : Nat} (hd : d < a.tmps.size) : (a.put (some d) v).tmps.getD t undef = if d = t then v else a.tmps.getD t undef := by
  simp only [Act.put]
  by_cases h : d = t
  · subst h; simp [hd]
  · simp [h, Array.getElem?_setIfInBounds_ne h]

theorem good_step (htbl : ∀ f s, findS E.cx.tbl f = some s → SummOK P f s (Φ f)) (hG : Good E slots mem ρ β a w)
    (hv : ∀ x ∈ o.op.operands, V.v x = opv slots x) (hrd : ∀ r cs, V.rd r = some cs → alook mem r = some cs)
    (hkd : ∀ i k, V.kd i = some k → k.holds (ρ i)) (hdec : ∀ e b, V.dec e = some b → (!(e.den ρ == 0)) = b)
    (hnr : alook mem V.nr = none) (hna : E.cx.narg ≤ V.nr) (hdst : ∀ d, o.dst = some d → d < E.sz)
    (h : absOp E.cx P V o.op = some out) (hI : InsOK Φ ρ V.nv out.ins)
    (hsl : ∀ t, alook slots' t = if o.dst = some t then some out.sv else alook slots t)
    (hme : ∀ r, alook mem' r = memEff out V.nr (alook mem) r)
    {K : Act → World → Prop} {Q : Exit → Act → World → Prop} (hK : ∀ a' w' β', Good E slots' mem' ρ β' a' w' → K a' w') : o.wp P a w K Q := by
  have hV : ViewOK V ρ β a o.op.operands := ⟨fun x hx sv h => (opv_ok hG (by rw [← hv x hx]; exact h)).1, hkd, hdec⟩
  have hM : MemOK E.cx V.rd ρ β w := ⟨fun r cs hr => hG.mok.cell r cs (hrd r cs hr), fun r cs hr => hG.mok.free r cs (hrd r cs hr), fun r cs r' cs' hr hr' => hG.mok.apart r cs r' cs' (hrd r cs hr) (hrd r' cs' hr')⟩
  have hnr' : V.rd V.nr = none := by
    cases hh : V.rd V.nr with
    | none => rfl
    | some cs => rw [hrd _ _ hh] at hnr; cases hnr
  have hsc := absOp_refs (ex := fun r => (alook mem r).isSome = true) ⟨fun x hx sv h => (opv_ok hG (by rw [← hv x hx]; exact h)).2, fun r cs hr => hG.msc r cs (hrd r cs hr)⟩ h
  refine absOp_sound htbl hV hM hnr' h hI K Q fun β' w' he => hK _ _ β' ?_
  have hne : ∀ r, (alook mem r).isSome = true → r ≠ V.nr := fun r hr e => by rw [e, hnr] at hr; cases hr
  have hb : ∀ r, (alook mem r).isSome = true → β' r = β r := fun r hr => he.bet r (hne r hr)
  have hden : ∀ s : S, (∀ q, s.ref = some q → (alook mem q).isSome = true) → s.den ρ β' = s.den ρ β := fun s hs => S.den_congr fun r hr => hb r (hs r hr)
  have hwr : ∀ r off xs, out.wr = some (r, off, xs) → ∃ cs, alook mem r = some cs ∧ off + xs.length ≤ cs.length ∧ E.cx.writable r = true := by
    intro r off xs hw
    obtain ⟨⟨cs, hcs, hle⟩, hwt⟩ := absOp_wr h hw
    exact ⟨cs, hrd _ _ hcs, hle, hwt⟩
  -- what a known row is now
  have hsome : ∀ r, (alook mem r).isSome = true → (alook mem' r).isSome = true := by
    intro r hr
    rw [hme]
    unfold memEff
    have := hne r hr
    split
    · simp only [this, if_false]
      split
      · split <;> simp_all
      · exact hr
    · split
      · split <;> simp_all
      · exact hr
  have hcases : ∀ r cs, alook mem' r = some cs → (r = V.nr ∧ out.fr = some cs) ∨
      (∃ c0, alook mem r = some c0 ∧ ((∃ off xs, out.wr = some (r, off, xs) ∧ cs = splice c0 off xs) ∨ ((∀ off xs, out.wr ≠ some (r, off, xs)) ∧ cs = c0))) := by
    intro r cs hr
    rw [hme] at hr
    have tail : (match out.wr with | some (r', o, xs) => if r = r' then (alook mem r).map fun c => splice c o xs else alook mem r | none => alook mem r) = some cs →
        (∃ c0, alook mem r = some c0 ∧ ((∃ off xs, out.wr = some (r, off, xs) ∧ cs = splice c0 off xs) ∨ ((∀ off xs, out.wr ≠ some (r, off, xs)) ∧ cs = c0))) := by
      intro ht
      cases hw : out.wr with
      | none =>
        rw [hw] at ht
        exact ⟨cs, ht, .inr ⟨fun _ _ => by simp, rfl⟩⟩
      | some p =>
        obtain ⟨r', off, xs⟩ := p
        rw [hw] at ht
        simp only at ht
        by_cases hrr : r = r'
        · subst hrr
          simp only [if_true, Option.map_eq_some_iff] at ht
          obtain ⟨c0, hc0, rfl⟩ := ht
          exact ⟨c0, hc0, .inl ⟨off, xs, rfl, rfl⟩⟩
        · simp only [hrr, if_false] at ht
          exact ⟨cs, ht, .inr ⟨fun _ _ e => hrr (by cases e; rfl), rfl⟩⟩
    unfold memEff at hr
    cases hf : out.fr with
    | none =>
      rw [hf] at hr
      exact .inr (tail hr)
    | some c1 =>
      rw [hf] at hr
      simp only at hr
      by_cases hrn : r = V.nr
      · rw [if_pos hrn] at hr
        cases hr
        exact .inl ⟨hrn, rfl⟩
      · rw [if_neg hrn] at hr
        exact .inr (tail hr)
  have hnotset : ∀ r c0 (j : Nat), alook mem r = some c0 → j < c0.length → (∀ off xs, out.wr = some (r, off, xs) → ¬ (off ≤ j ∧ j < off + xs.length)) → ¬ outSet β out.wr (β r).1 ((β r).2 + j) := by
    intro r c0 j hc hj hno hset
    cases hw : out.wr with
    | none => rw [hw] at hset; exact hset
    | some p =>
      obtain ⟨r', off, xs⟩ := p
      rw [hw] at hset
      simp only [outSet] at hset
      obtain ⟨c1, hc1, hle, hwt⟩ := hwr r' off xs hw
      by_cases hrr : r = r'
      · subst hrr
        exact hno off xs hw ⟨by omega, by omega⟩
      · have := hG.mok.apart r' c1 r c0 hc1 hc (Ne.symm hrr) hwt
        omega
  have hold : ∀ r c0 (j : Nat) s, alook mem r = some c0 → c0[j]? = some s → (∀ off xs, out.wr = some (r, off, xs) → ¬ (off ≤ j ∧ j < off + xs.length)) → w'.cell? ⟨(β' r).1, (β' r).2 + j, none⟩ = some (s.den ρ β') := by
    intro r c0 j s hc hs hno
    have hj : j < c0.length := (List.getElem?_eq_some_iff.1 hs).1
    have h0 := hG.mok.cell r c0 hc j s hs
    rw [hb r (by rw [hc]; rfl), he.keeps.cell (cell_lt h0) (hnotset r c0 j hc hj hno), h0, hden s (fun q hq => hG.msc r c0 hc s (List.mem_of_getElem? hs) q hq)]
  refine ⟨?_, ?_, ?_, ⟨?_, ?_, ?_⟩, ?_, ?_, ?_, ?_, ?_, ?_⟩
  · -- size
    rw [← hG.size]
    cases o.dst <;> simp [Act.put]
  · rw [← hG.dfr]
    cases o.dst <;> simp [Act.put]
  · -- slots
    intro t sv ht
    rw [hsl] at ht
    by_cases hd : o.dst = some t
    · rw [if_pos hd] at ht
      cases ht
      refine ⟨?_, fun r hr => ?_⟩
      · rw [hd, put_get (by rw [hG.size]; exact hdst t hd), if_pos rfl]
      · rcases hsc.sv r hr with h1 | ⟨h1, rfl⟩
        · exact hsome r h1
        · rw [hme]
          unfold memEff
          obtain ⟨cs, hcs⟩ := Option.isSome_iff_exists.1 h1
          simp [hcs]
    · rw [if_neg hd] at ht
      obtain ⟨h1, h2⟩ := hG.sok t sv ht
      refine ⟨?_, fun r hr => hsome r (h2 r hr)⟩
      rw [SV.den_congr fun r hr => hb r (h2 r hr), ← h1]
      cases hod : o.dst with
      | none => rfl
      | some d =>
        rw [put_get (by rw [hG.size]; exact hdst d hod), if_neg]
        intro e
        exact hd (by rw [hod, e])
  · -- cells
    intro r cs hr j s hs
    rcases hcases r cs hr with ⟨rfl, hf⟩ | ⟨c0, hc0, ⟨off, xs, hw, rfl⟩ | ⟨hno, rfl⟩⟩
    · rw [(he.frc cs hf).2.2.2.1 j s hs, hden s (fun q hq => hsc.fr cs hf s (List.mem_of_getElem? hs) q hq)]
    · obtain ⟨c1, hc1, hle, _⟩ := hwr r off xs hw
      rw [hc0] at hc1; cases hc1
      rw [splice_get hle] at hs
      split at hs
      · rename_i hin
        have := he.wrc r off xs hw (j - off) s hs
        rw [hb r (by rw [hc0]; rfl), hden s (fun q hq => hsc.wr r off xs hw s (List.mem_of_getElem? hs) q hq)]
        have e : (β r).2 + off + (j - off) = (β r).2 + j := by omega
        rwa [e] at this
      · rename_i hin
        exact hold r c0 j s hc0 hs (fun off' xs' hw' => by rw [hw] at hw'; cases hw'; exact hin)
    · exact hold r cs j s hc0 hs (fun off' xs' hw' => absurd hw' (hno off' xs'))
  · -- not frozen
    intro r cs hr hwt j hj
    rcases hcases r cs hr with ⟨rfl, hf⟩ | ⟨c0, hc0, hrest⟩
    · exact (he.frc cs hf).2.2.2.2 j hj
    · have hl : cs.length = c0.length := by
        rcases hrest with ⟨off, xs, hw, rfl⟩ | ⟨_, rfl⟩
        · obtain ⟨c1, hc1, hle, _⟩ := hwr r off xs hw
          rw [hc0] at hc1; cases hc1
          exact splice_length hle
        · rfl
      have h0 := hG.mok.free r c0 hc0 hwt j (by omega)
      rw [hb r (by rw [hc0]; rfl), he.keeps.frozen _ (hG.blk r (by rw [hc0]; rfl)), h0]
  · -- apart
    intro r cs r' cs' hr hr' hrr hwt
    have hlen : ∀ r cs c0, alook mem r = some c0 → ((∃ off xs, out.wr = some (r, off, xs) ∧ cs = splice c0 off xs) ∨ ((∀ off xs, out.wr ≠ some (r, off, xs)) ∧ cs = c0)) → cs.length = c0.length := by
      intro r cs c0 hc0 hrest
      rcases hrest with ⟨off, xs, hw, rfl⟩ | ⟨_, rfl⟩
      · obtain ⟨c1, hc1, hle, _⟩ := hwr r off xs hw
        rw [hc0] at hc1; cases hc1
        exact splice_length hle
      · rfl
    rcases hcases r cs hr with ⟨rfl, hf⟩ | ⟨c0, hc0, hrest⟩
    · rcases hcases r' cs' hr' with ⟨rfl, _⟩ | ⟨c0', hc0', _⟩
      · exact absurd rfl hrr
      · refine .inl ?_
        have h1 := (he.frc cs hf).1
        have h2 := hG.blk r' (by rw [hc0']; rfl)
        rw [hb r' (by rw [hc0']; rfl)]
        omega
    · rcases hcases r' cs' hr' with ⟨rfl, hf⟩ | ⟨c0', hc0', hrest'⟩
      · refine .inl ?_
        have h1 := (he.frc cs' hf).1
        have h2 := hG.blk r (by rw [hc0]; rfl)
        rw [hb r (by rw [hc0]; rfl)]
        omega
      · rw [hb r (by rw [hc0]; rfl), hb r' (by rw [hc0']; rfl), hlen r cs c0 hc0 hrest, hlen r' cs' c0' hc0' hrest']
        exact hG.mok.apart r c0 r' c0' hc0 hc0' hrr hwt
  · -- what cells name
    intro r cs hr s hs q hq
    rcases hcases r cs hr with ⟨rfl, hf⟩ | ⟨c0, hc0, ⟨off, xs, hw, rfl⟩ | ⟨_, rfl⟩⟩
    · exact hsome q (hsc.fr cs hf s hs q hq)
    · rcases splice_mem hs with h1 | h1
      · exact hsome q (hG.msc r c0 hc0 s h1 q hq)
      · exact hsome q (hsc.wr r off xs hw s h1 q hq)
    · exact hsome q (hG.msc r cs hc0 s hs q hq)
  · -- what is kept
    refine hG.keeps.trans he.keeps (fun b j _ h => h) (fun b j hb0 hset => ?_)
    cases hw : out.wr with
    | none => rw [hw] at hset; exact hset.elim
    | some p =>
      obtain ⟨r, off, xs⟩ := p
      rw [hw] at hset
      simp only [outSet] at hset
      obtain ⟨c1, hc1, hle, hwt⟩ := hwr r off xs hw
      simp only [Cx.writable, Bool.or_eq_true, decide_eq_true_eq, List.contains_iff_mem] at hwt
      rcases Nat.lt_or_ge r E.cx.narg with hlt | hge
      · rcases hwt with h1 | h1
        · omega
        · have hl := hG.lens r c1 hlt hc1
          have hb0 := hG.args r hlt
          refine ⟨r, h1, hlt, ?_, ?_, ?_⟩ <;> rw [← hb0] <;> omega
      · have := (hG.fresh r (by rw [hc1]; rfl) hge).1
        omega
  · -- new rows are new
    intro r hr hge
    obtain ⟨cs, hcs⟩ := Option.isSome_iff_exists.1 hr
    rcases hcases r cs hcs with ⟨rfl, hf⟩ | ⟨c0, hc0, _⟩
    · exact ⟨Nat.le_trans hG.keeps.size (he.frc cs hf).1, (he.frc cs hf).2.2.1⟩
    · rw [hb r (by rw [hc0]; rfl)]; exact hG.fresh r (by rw [hc0]; rfl) hge
  · intro r hlt
    rw [he.bet r (by omega)]
    exact hG.args r hlt
  · intro r hr
    obtain ⟨cs, hcs⟩ := Option.isSome_iff_exists.1 hr
    rcases hcases r cs hcs with ⟨rfl, hf⟩ | ⟨c0, hc0, _⟩
    · exact (he.frc cs hf).2.1
    · rw [hb r (by rw [hc0]; rfl)]
      exact Nat.lt_of_lt_of_le (hG.blk r (by rw [hc0]; rfl)) he.keeps.size
  · intro r cs hlt hr
    rcases hcases r cs hr with ⟨rfl, hf⟩ | ⟨c0, hc0, ⟨off, xs, hw, rfl⟩ | ⟨_, rfl⟩⟩
    · omega
    · obtain ⟨c1, hc1, hle, _⟩ := hwr r off xs hw
      rw [hc0] at hc1; cases hc1
      rw [splice_length hle]
      exact hG.lens r c0 hlt hc0
    · exact hG.lens r cs hlt hc0

/-- An operation whose guard says no. -/
theorem good_skip (hG : Good E slots mem ρ β a w) (hdst : ∀ d, o.dst = some d → d < E.sz) (hsl : ∀ t, alook slots' t = if o.dst = some t then some (.s .undef) else alook slots t) (hme : ∀ r, alook mem' r = alook mem r) :
    Good E slots' mem' ρ β (a.put o.dst undef) w := by
  have hm : alook mem' = alook mem := funext hme
  refine ⟨?_, ?_, ?_, by rw [hm]; exact hG.mok, by rw [hm]; exact hG.msc, hG.keeps, by rw [hm]; exact hG.fresh, hG.args, by rw [hm]; exact hG.blk, by rw [hm]; exact hG.lens⟩
  · rw [← hG.size]
    cases o.dst <;> simp [Act.put]
  · rw [← hG.dfr]
    cases o.dst <;> simp [Act.put]
  · intro t sv ht
    rw [hsl] at ht
    by_cases hd : o.dst = some t
    · rw [if_pos hd] at ht
      cases ht
      refine ⟨?_, fun r hr => by simp [SV.refs, S.ref] at hr⟩
      rw [hd, put_get (by rw [hG.size]; exact hdst t hd), if_pos rfl]
      rfl
    · rw [if_neg hd] at ht
      obtain ⟨h1, h2⟩ := hG.sok t sv ht
      refine ⟨?_, by rw [hm]; exact h2⟩
      rw [← h1]
      cases hod : o.dst with
      | none => rfl
      | some d =>
        rw [put_get (by rw [hG.size]; exact hdst d hod), if_neg]
        intro e
        exact hd (by rw [hod, e])

theorem Good.drew (hG : Good E slots mem ρ β a w) : Good E slots mem ρ β a { w with drawn := w.drawn + 1 } :=
  ⟨hG.size, hG.dfr, hG.sok, ⟨hG.mok.cell, hG.mok.free, hG.mok.apart⟩, hG.msc, hG.keeps.trans (Keeps.drew w E.S0) (fun _ _ _ h => h) (fun _ _ _ h => h), hG.fresh, hG.args, hG.blk, hG.lens⟩

end
end Go.Sym
