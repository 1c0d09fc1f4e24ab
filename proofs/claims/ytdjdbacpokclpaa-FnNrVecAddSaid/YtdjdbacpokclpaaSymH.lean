/- Symbolic runs of straight Go code over the model: a statement whose order Go leaves open, in whatever order. -/
import Derived.Test.YtdjdbacpokclpaaSymG
namespace Go.Sym

/-- One operation of a region, as it was reckoned. -/
structure Rec where
  o : Oper
  wanted : Bool
  out : Out
  nr : Nat
  tch : List Nat
  uses : List Nat

def putSlot (x : Rec) (l : List (Nat × SV)) : List (Nat × SV) :=
  match x.o.dst with
  | some d => (d, x.out.sv) :: l
  | none => l

def putMem (x : Rec) (m : List (Nat × List S)) : List (Nat × List S) :=
  let m1 := match x.out.wr with
    | some (r, o, xs) => match alook m r with
      | some c => (r, splice c o xs) :: m
      | none => m
    | none => m
  match x.out.fr with
  | some cs => (x.nr, cs) :: m1
  | none => m1

theorem alook_cons {α : Type} (k : Nat) (x : α) (l : List (Nat × α)) (t : Nat) : alook ((k, x) :: l) t = if k = t then some x else alook l t := by
  simp only [alook]
  by_cases h : k = t <;> simp [h]

theorem alook_putSlot (x : Rec) (l : List (Nat × SV)) (t : Nat) : alook (putSlot x l) t = if x.o.dst = some t then some x.out.sv else alook l t := by
  unfold putSlot
  cases hd : x.o.dst with
  | none => simp
  | some d => simp only [alook_cons, Option.some.injEq]

theorem alook_putMem (x : Rec) (m : List (Nat × List S)) (r : Nat) : alook (putMem x m) r = memEff x.out x.nr (alook m) r := by
  have h1 : ∀ r, alook (match x.out.wr with | some (r, o, xs) => (match alook m r with | some c => (r, splice c o xs) :: m | none => m) | none => m) r =
      (match x.out.wr with | some (r', o, xs) => if r = r' then (alook m r).map fun c => splice c o xs else alook m r | none => alook m r) := by
    intro r
    cases hw : x.out.wr with
    | none => rfl
    | some p =>
      obtain ⟨r', o, xs⟩ := p
      simp only
      cases hl : alook m r' with
      | none =>
        simp only
        by_cases hr : r = r'
        · subst hr; simp [hl]
        · simp [hr]
      | some c =>
        simp only [alook_cons]
        by_cases hr : r = r'
        · subst hr; simp [hl]
        · simp [hr, Ne.symm hr]
  unfold putMem memEff
  cases hf : x.out.fr with
  | none => simp only; exact h1 r
  | some cs =>
    simp only [alook_cons]
    by_cases hr : x.nr = r
    · simp [hr]
    · rw [if_neg hr, if_neg (Ne.symm hr)]; exact h1 r

/-- The rows that it may turn. -/
def Rec.writes (x : Rec) : List Nat := x.nr :: (x.out.wr.map (·.1)).toList

theorem memEff_other {x : Rec} {m : Nat → Option (List S)} {r : Nat} (h : r ∉ x.writes) : memEff x.out x.nr m r = m r := by
  simp only [Rec.writes, List.mem_cons, not_or] at h
  obtain ⟨h1, h2⟩ := h
  unfold memEff
  cases hw : x.out.wr with
  | none => cases x.out.fr <;> simp [h1]
  | some p =>
    obtain ⟨r', o, xs⟩ := p
    have : r ≠ r' := fun e => h2 (by simp [hw, e])
    cases x.out.fr <;> simp [h1, this]

theorem memEff_congr {out : Out} {nr : Nat} {m m' : Nat → Option (List S)} {r : Nat} (h : m r = m' r) : memEff out nr m r = memEff out nr m' r := by
  unfold memEff
  rw [h]

def slotsOf (rs : List Rec) (b : List (Nat × SV)) : List (Nat × SV) := rs.foldl (fun l x => putSlot x l) b
def memOf (rs : List Rec) (b : List (Nat × List S)) : List (Nat × List S) := rs.foldl (fun l x => putMem x l) b

theorem slotsOf_append (A B : List Rec) (b) : slotsOf (A ++ B) b = slotsOf B (slotsOf A b) := by simp [slotsOf]
theorem memOf_append (A B : List Rec) (b) : memOf (A ++ B) b = memOf B (memOf A b) := by simp [memOf]
theorem slotsOf_cons (x : Rec) (B : List Rec) (b) : slotsOf (x :: B) b = slotsOf B (putSlot x b) := rfl
theorem memOf_cons (x : Rec) (B : List Rec) (b) : memOf (x :: B) b = memOf B (putMem x b) := rfl

theorem slotsOf_congr {t : Nat} : ∀ (rs : List Rec) {b b' : List (Nat × SV)}, alook b t = alook b' t → alook (slotsOf rs b) t = alook (slotsOf rs b') t
  | [], _, _, h => h
  | x :: rs, b, b', h => slotsOf_congr rs (b := putSlot x b) (b' := putSlot x b') (by rw [alook_putSlot, alook_putSlot, h])

theorem slotsOf_skip {t : Nat} : ∀ (rs : List Rec) {b : List (Nat × SV)}, (∀ y ∈ rs, y.o.dst ≠ some t) → alook (slotsOf rs b) t = alook b t
  | [], _, _ => rfl
  | x :: rs, b, h => by
    rw [slotsOf_cons, slotsOf_skip rs (fun y hy => h y (by simp [hy])), alook_putSlot, if_neg (h x (by simp))]

theorem memOf_congr {r : Nat} : ∀ (rs : List Rec) {b b' : List (Nat × List S)}, alook b r = alook b' r → alook (memOf rs b) r = alook (memOf rs b') r
  | [], _, _, h => h
  | x :: rs, b, b', h => memOf_congr rs (b := putMem x b) (b' := putMem x b') (by rw [alook_putMem, alook_putMem]; exact memEff_congr h)

theorem memOf_skip {r : Nat} : ∀ (rs : List Rec) {b : List (Nat × List S)}, (∀ y ∈ rs, r ∉ y.writes) → alook (memOf rs b) r = alook b r
  | [], _, _ => rfl
  | x :: rs, b, h => by
    rw [memOf_cons, memOf_skip rs (fun y hy => h y (by simp [hy])), alook_putMem, memEff_other (h x (by simp))]

/-- Those that have been carried out, in the order of the text. -/
def sel (L : Nat → Bool) : Nat → List Rec → List Rec
  | _, [] => []
  | k, x :: rs => if L k then x :: sel L (k + 1) rs else sel L (k + 1) rs

theorem sel_all {L : Nat → Bool} : ∀ (rs : List Rec) (k : Nat), (∀ j, k ≤ j → j < k + rs.length → L j = true) → sel L k rs = rs
  | [], _, _ => rfl
  | x :: rs, k, h => by
    rw [sel, if_pos (h k (Nat.le_refl _) (by simp)), sel_all rs (k + 1) (fun j h1 h2 => h j (by omega) (by simp; omega))]

theorem sel_none {L : Nat → Bool} : ∀ (rs : List Rec) (k : Nat), (∀ j, k ≤ j → j < k + rs.length → L j = false) → sel L k rs = []
  | [], _, _ => rfl
  | x :: rs, k, h => by
    rw [sel, if_neg (by simp [h k (Nat.le_refl _) (by simp)]), sel_none rs (k + 1) (fun j h1 h2 => h j (by omega) (by simp; omega))]

theorem sel_lt : ∀ (rs : List Rec) (k i : Nat), k ≤ i → sel (fun j => decide (j < i)) k rs = rs.take (i - k)
  | [], _, _, _ => by simp [sel]
  | x :: rs, k, i, h => by
    rcases Nat.lt_or_ge k i with hlt | hge
    · have e : i - k = (i - (k + 1)) + 1 := by omega
      rw [sel, if_pos (by simpa using hlt), sel_lt rs (k + 1) i hlt, e, List.take_succ_cons]
    · have e : i = k := by omega
      subst e
      rw [sel_none]
      · simp
      · intro j h1 _; simp; omega

theorem slot_agree {L M : Nat → Bool} {t : Nat} : ∀ (rs : List Rec) (k : Nat) {b b' : List (Nat × SV)}, alook b t = alook b' t → (∀ (j : Nat) y, rs[j]? = some y → y.o.dst = some t → L (k + j) = M (k + j)) →
    alook (slotsOf (sel L k rs) b) t = alook (slotsOf (sel M k rs) b') t
  | [], _, _, _, hb, _ => hb
  | x :: rs, k, b, b', hb, h => by
    have ht : ∀ {c c' : List (Nat × SV)}, alook c t = alook c' t → alook (slotsOf (sel L (k + 1) rs) c) t = alook (slotsOf (sel M (k + 1) rs) c') t :=
      fun hc => slot_agree rs (k + 1) hc (fun j y hy hd => by have := h (j + 1) y (by simpa using hy) hd; rw [show k + 1 + j = k + (j + 1) by omega]; exact this)
    by_cases hd : x.o.dst = some t
    · have := h 0 x (by simp) hd
      simp only [Nat.add_zero] at this
      simp only [sel, this]
      split
      · rw [slotsOf_cons, slotsOf_cons]
        exact ht (by rw [alook_putSlot, alook_putSlot, if_pos hd, if_pos hd])
      · exact ht hb
    · have e : ∀ c : List (Nat × SV), alook (putSlot x c) t = alook c t := fun c => by rw [alook_putSlot, if_neg hd]
      simp only [sel]
      split <;> split
      · rw [slotsOf_cons, slotsOf_cons]; exact ht (by rw [e, e, hb])
      · rw [slotsOf_cons]; exact ht (by rw [e, hb])
      · rw [slotsOf_cons]; exact ht (by rw [e, hb])
      · exact ht hb

theorem mem_agree {L M : Nat → Bool} {r : Nat} : ∀ (rs : List Rec) (k : Nat) {b b' : List (Nat × List S)}, alook b r = alook b' r → (∀ (j : Nat) y, rs[j]? = some y → r ∈ y.writes → L (k + j) = M (k + j)) →
    alook (memOf (sel L k rs) b) r = alook (memOf (sel M k rs) b') r
  | [], _, _, _, hb, _ => hb
  | x :: rs, k, b, b', hb, h => by
    have ht : ∀ {c c' : List (Nat × List S)}, alook c r = alook c' r → alook (memOf (sel L (k + 1) rs) c) r = alook (memOf (sel M (k + 1) rs) c') r :=
      fun hc => mem_agree rs (k + 1) hc (fun j y hy hd => by have := h (j + 1) y (by simpa using hy) hd; rw [show k + 1 + j = k + (j + 1) by omega]; exact this)
    by_cases hd : r ∈ x.writes
    · have := h 0 x (by simp) hd
      simp only [Nat.add_zero] at this
      simp only [sel, this]
      split
      · rw [memOf_cons, memOf_cons]
        exact ht (by rw [alook_putMem, alook_putMem]; exact memEff_congr hb)
      · exact ht hb
    · have e : ∀ c : List (Nat × List S), alook (putMem x c) r = alook c r := fun c => by rw [alook_putMem, memEff_other hd]
      simp only [sel]
      split <;> split
      · rw [memOf_cons, memOf_cons]; exact ht (by rw [e, e, hb])
      · rw [memOf_cons]; exact ht (by rw [e, hb])
      · rw [memOf_cons]; exact ht (by rw [e, hb])
      · exact ht hb

theorem sel_insert {L L' : Nat → Bool} {i : Nat} (hi : L i = false) (hL' : ∀ j, L' j = (L j || decide (j = i))) : ∀ (rs : List Rec) (k : Nat) {x : Rec}, k ≤ i → rs[i - k]? = some x →
    ∃ A B, sel L k rs = A ++ B ∧ sel L' k rs = A ++ x :: B ∧ ∀ y ∈ B, ∃ j, i < j ∧ L j = true ∧ rs[j - k]? = some y
  | [], k, x, hk, hx => by simp at hx
  | z :: rs, k, x, hk, hx => by
    rcases Nat.lt_or_ge k i with hlt | hge
    · have hx' : rs[i - (k + 1)]? = some x := by
        have e : i - k = (i - (k + 1)) + 1 := by omega
        rw [e] at hx
        simpa using hx
      obtain ⟨A, B, h1, h2, h3⟩ := sel_insert hi hL' rs (k + 1) hlt hx'
      have hkk : L' k = L k := by rw [hL']; simp; intro e; omega
      have h3' : ∀ y ∈ B, ∃ j, i < j ∧ L j = true ∧ (z :: rs)[j - k]? = some y := by
        intro y hy
        obtain ⟨j, g1, g2, g3⟩ := h3 y hy
        refine ⟨j, g1, g2, ?_⟩
        have e : j - k = (j - (k + 1)) + 1 := by omega
        rw [e]
        simpa using g3
      cases hLk : L k
      · exact ⟨A, B, by simp [sel, hLk, h1], by simp [sel, hkk, hLk, h2], h3'⟩
      · exact ⟨z :: A, B, by simp [sel, hLk, h1], by simp [sel, hkk, hLk, h2], h3'⟩
    · have e : i = k := by omega
      subst e
      simp only [Nat.sub_self, List.getElem?_cons_zero, Option.some.injEq] at hx
      subst hx
      refine ⟨[], sel L (i + 1) rs, by simp [sel, hi], ?_, ?_⟩
      · have hs : ∀ (l : List Rec) (m : Nat), i < m → sel L' m l = sel L m l := by
          intro l
          induction l with
          | nil => intro m _; rfl
          | cons y l ih =>
            intro m hm
            have : L' m = L m := by rw [hL']; simp; intro e; omega
            simp only [sel, this, ih (m + 1) (by omega)]
        simp only [sel, hL', hi, decide_true, Bool.or_true, if_true, List.nil_append]
        rw [hs rs (i + 1) (by omega)]
      · have hs : ∀ (l : List Rec) (m : Nat) y, y ∈ sel L m l → ∃ j, m ≤ j ∧ L j = true ∧ l[j - m]? = some y := by
          intro l
          induction l with
          | nil => intro m y hy; simp [sel] at hy
          | cons z l ih =>
            intro m y hy
            have rec' : y ∈ sel L (m + 1) l → ∃ j, m ≤ j ∧ L j = true ∧ (z :: l)[j - m]? = some y := by
              intro hy
              obtain ⟨j, g1, g2, g3⟩ := ih (m + 1) y hy
              refine ⟨j, by omega, g2, ?_⟩
              have e : j - m = (j - (m + 1)) + 1 := by omega
              rw [e]; simpa using g3
            simp only [sel] at hy
            split at hy
            · rename_i hLm
              simp only [List.mem_cons] at hy
              rcases hy with rfl | hy
              · exact ⟨m, Nat.le_refl _, hLm, by simp⟩
              · exact rec' hy
            · exact rec' hy
        intro y hy
        obtain ⟨j, g1, g2, g3⟩ := hs rs (i + 1) y hy
        refine ⟨j, by omega, g2, ?_⟩
        have e : j - i = (j - (i + 1)) + 1 := by omega
        rw [e]; simpa using g3

/-! ### which must come before which -/
def depsOf (o : Oper) : List Nat := (o.after.toList.filter (Region.binds .any ·)).map (·.on)

def maskOf (ms : List Nat) (ds : List Nat) : Nat := ds.foldl (fun s d => s ||| 2 ^ d ||| ms.getD d 0) 0

def ancs : List Oper → List Nat → List Nat
  | [], ms => ms
  | o :: os, ms => ancs os (ms ++ [maskOf ms (depsOf o)])

def slotConf (x y : Rec) : Bool :=
  (match x.o.dst with
   | some d => y.uses.contains d || y.o.dst == some d
   | none => false) ||
  (match y.o.dst with
   | some d => x.uses.contains d
   | none => false)

def memConf (x y : Rec) : Bool := x.writes.any (fun r => y.writes.contains r || y.tch.contains r) || y.writes.any (fun r => x.tch.contains r)

def conf (x y : Rec) : Bool := slotConf x y || memConf x y

/-- Everything before number i that is in conflict with it must come before it. -/
def confAt (ms : List Nat) (rs : List Rec) (i : Nat) (x : Rec) : Bool :=
  (rs.zipIdx.all fun (y, j) => decide (i ≤ j) || !conf y x || (ms.getD i 0).testBit j) && (depsOf x.o).all (fun d => decide (d < i))

def orderOK (rs : List Rec) : Bool :=
  let ms := ancs (rs.map (·.o)) []
  rs.zipIdx.all fun (x, i) => confAt ms rs i x

theorem maskOf_bit (ms : List Nat) (j : Nat) : ∀ (ds : List Nat) (s : Nat), (ds.foldl (fun s d => s ||| 2 ^ d ||| ms.getD d 0) s).testBit j = true → s.testBit j = true ∨ ∃ d ∈ ds, j = d ∨ (ms.getD d 0).testBit j = true
  | [], s, h => .inl h
  | d :: ds, s, h => by
    simp only [List.foldl_cons] at h
    rcases maskOf_bit ms j ds _ h with h1 | ⟨d', hd', h1⟩
    · simp only [Nat.testBit_or, Bool.or_eq_true] at h1
      rcases h1 with (h1 | h1) | h1
      · exact .inl h1
      · rw [Nat.testBit_two_pow] at h1
        exact .inr ⟨d, by simp, .inl (of_decide_eq_true h1).symm⟩
      · exact .inr ⟨d, by simp, .inr h1⟩
    · exact .inr ⟨d', by simp [hd'], h1⟩

theorem ancs_spec {L : Nat → Bool} {ops : List Oper} (hdown : ∀ (i : Nat) o, ops[i]? = some o → L i = true → ∀ d ∈ depsOf o, L d = true) :
    ∀ (os : List Oper) (ms : List Nat), (∀ j o, os[j]? = some o → ops[ms.length + j]? = some o) →
      (∀ i, i < ms.length → (∀ o, ops[i]? = some o → ∀ d ∈ depsOf o, L d = true) → ∀ j, (ms.getD i 0).testBit j = true → L j = true) →
      ∀ i, (∀ o, ops[i]? = some o → ∀ d ∈ depsOf o, L d = true) → ∀ j, ((ancs os ms).getD i 0).testBit j = true → L j = true
  | [], ms, _, hms, i, hi, j, hj => by
    simp only [ancs] at hj
    rcases Nat.lt_or_ge i ms.length with h | h
    · exact hms i h hi j hj
    · rw [List.getD_eq_getElem?_getD, List.getElem?_eq_none h] at hj
      simp at hj
  | o :: os, ms, hos, hms, i, hi, j, hj => by
    have ho : ops[ms.length]? = some o := by simpa using hos 0 o rfl
    refine ancs_spec hdown os (ms ++ [maskOf ms (depsOf o)]) (fun k o' hk => ?_) (fun k hk hkd j' hj' => ?_) i hi j hj
    · have := hos (k + 1) o' (by simpa using hk)
      simpa [Nat.add_assoc, Nat.add_comm 1 k] using this
    · simp only [List.length_append, List.length_cons, List.length_nil] at hk
      rcases Nat.lt_or_ge k ms.length with h | h
      · rw [List.getD_eq_getElem?_getD, List.getElem?_append_left h, ← List.getD_eq_getElem?_getD] at hj'
        exact hms k h hkd j' hj'
      · have e : k = ms.length := by omega
        subst e
        rw [List.getD_eq_getElem?_getD] at hj'
        simp only [List.getElem?_concat_length, Option.getD_some] at hj'
        rcases maskOf_bit ms j' _ _ hj' with h0 | ⟨d, hd, h1⟩
        · simp at h0
        · have hLd := hkd o ho d hd
          rcases h1 with rfl | h1
          · exact hLd
          · rcases Nat.lt_or_ge d ms.length with hdl | hdl
            · exact hms d hdl (fun o' ho' => hdown d o' ho' hLd) j' h1
            · rw [List.getD_eq_getElem?_getD, List.getElem?_eq_none hdl] at h1
              simp at h1

end Go.Sym
