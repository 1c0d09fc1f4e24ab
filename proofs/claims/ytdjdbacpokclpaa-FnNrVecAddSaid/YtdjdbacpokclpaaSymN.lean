/- Symbolic runs of straight Go code over the model: a whole function: how it begins, what its ways come to. -/
import Derived.Test.YtdjdbacpokclpaaSymL
namespace Go.Sym

def AK.width : AK → Nat
  | .sc _ | .cn _ => 1
  | .ptr n | .slc n | .agg n => n

def uw (i n : Nat) : List S := (List.range' i n).map fun j => .int .u64 (.v j)

/-- The first variable of an argument. -/
def startOf : List AK → Nat → Nat
  | k :: ks, i + 1 => k.width + startOf ks i
  | _, _ => 0

def argSV (s : Summ) (al : Option Nat) (i : Nat) (k : AK) : SV :=
  match k with
  | .sc (.i k) => .s (.int k (.v (startOf s.args i)))
  | .sc .bit => .s (.int .u64 (.v (startOf s.args i)))
  | .sc .bool => .s (.bool (.v (startOf s.args i)))
  | .cn n => .s (.int .i64 (.c n))
  | .ptr _ => .s (.ptr (if al = some i then s.wr.getD i else i) 0)
  | .slc n => .s (.slc i 0 n n)
  | .agg n => .agg (uw (startOf s.args i) n)

def argMem (s : Summ) (al : Option Nat) (i : Nat) (k : AK) : Option (List S) :=
  match k with
  | .ptr n => if al = some i then none else some (uw (startOf s.args (if s.wr = some i then al.getD i else i)) n)
  | .slc n => some (uw (startOf s.args i) n)
  | _ => none

def initSt (s : Summ) (al : Option Nat) (dec : List Bool) : St :=
  { nv := s.inKinds.length, nr := s.args.length, slots := s.args.zipIdx.map fun (k, i) => (i, argSV s al i k), mem := s.args.zipIdx.filterMap fun (k, i) => (argMem s al i k).map (i, ·), trace := [], asr := [], dec := dec }

def kxOf (P : Program) (tbl : List (Nat × Summ)) (s : Summ) (sz : Nat) : Kx := { cx := { narg := s.args.length, wl := s.wr.toList, tbl := tbl }, P := P, kin := s.inKinds, sz := sz }

def resOut (s : Summ) (al : Option Nat) (V : View) (k : RK) (x : SV) : Option (List E) :=
  match k, x with
  | .sc (.i k), .s (.int k' e) => if k = k' ∧ V.kdE e (.i k) then some [e] else none
  | .sc .bit, .s (.int .u64 e) => if V.kdE e .bit then some [e] else none
  | .sc .bool, .s (.bool e) => if V.kdE e .bool then some [e] else none
  | .arg i, .s (.ptr r o) => match s.args[i]? with
    | some (.ptr _) => if r = (if al = some i then s.wr.getD i else i) ∧ o = 0 ∧ r < s.args.length then some [] else none
    | _ => none
  | .slc n, .s (.slc r o len cap) => if o = 0 ∧ len = n ∧ cap = n ∧ s.args.length ≤ r then match V.rd r with
    | some cs => if cs.length = n then words V cs else none
    | none => none else none
  | .agg n, .agg xs => if xs.length = n then words V xs else none
  | _, _ => none

def resOuts (s : Summ) (al : Option Nat) (V : View) : List RK → List SV → Option (List E)
  | [], [] => some []
  | k :: ks, x :: xs => match resOut s al V k x, resOuts s al V ks xs with
    | some a, some b => some (a ++ b)
    | _, _ => none
  | _, _ => none

def St.full (kin : List K) (st : St) : View := { v := opv st.slots, rd := alook st.mem, kd := kdOf kin st, dec := st.decide, nv := st.nv, nr := st.nr }

def wrOuts (s : Summ) (V : View) : Option (List E) :=
  match s.wr with
  | none => some []
  | some i => match V.rd i with
    | some cs => if cs.length = wrLen s then words V cs else none
    | none => none

def resSV (P : Program) (st : St) : ResultVar → Option SV
  | .tmp t => alook st.slots t
  | .cell t ty => match alook st.slots t with
    | some (.s (.ptr r o)) => match alook st.mem r, isAggB P ty with
      | some cs, some true => match sizeB P ty with
        | some n => (window cs o n).map SV.agg
        | none => none
      | some cs, some false => (cs[o]?).map SV.s
      | _, _ => none
    | _ => none

def leafOf (P : Program) (s : Summ) (al : Option Nat) (kin : List K) (rs : List ResultVar) (st : St) : Option Leaf :=
  match rs.mapM (resSV P st) with
  | none => none
  | some xs => match wrOuts s (st.full kin), resOuts s al (st.full kin) s.res xs with
    | some a, some b => if countSlc s.res ≤ 1 then some { tr := st.trace, asr := st.asr, outs := a ++ b } else none
    | _, _ => none

def leafRun (P : Program) (tbl : List (Nat × Summ)) (s : Summ) (al : Option Nat) (fuel : Nat) (c : Code) (sz : Nat) (rs : List ResultVar) (ds : List Bool) : R Leaf :=
  match execCode (kxOf P tbl s sz) fuel c (initSt s al ds) with
  | .ok (ex, st) => if ex = .ret ∨ ex = .normal then match leafOf P s al s.inKinds rs st with
    | some l => .ok l
    | none => .fail 20 0
    else .fail 21 0
  | .need e => .need e
  | .fail a b => .fail a b

/-- The tree of all ways. -/
def treeOf (run : List Bool → R Leaf) : Nat → List Bool → Option CT
  | 0, _ => none
  | n + 1, ds => match run ds with
    | .ok l => some (.leaf l)
    | .need e => match treeOf run n (ds ++ [true]), treeOf run n (ds ++ [false]) with
      | some t, some f => some (.node e t f)
      | _, _ => none
    | .fail _ _ => none

def initB (s : Summ) (sz : Nat) : Bool :=
  decide (s.args.length ≤ sz) && s.args.all (fun k => decide (0 < k.width)) && match s.wr with
    | none => true
    | some i => match s.args[i]? with
      | some (.ptr _) => true
      | _ => false

def alsOf (s : Summ) : List (Option Nat) :=
  none :: match s.wr with
    | none => []
    | some i => ((List.range s.args.length).filter fun j => j != i && s.args[j]? == s.args[i]?).map some

section
variable {P : Program} {Φ : Nat → List Int → List Int} {ρ : Nat → Int} {β : Nat → Nat × Nat} {w : World} {s : Summ} {al : Option Nat}

theorem treeOf_run {run : List Bool → R Leaf} : ∀ {n : Nat} {ds : List Bool} {T : CT}, treeOf run n ds = some T → ∀ l ∈ T.leaves, ∃ ds, run ds = .ok l
  | 0, _, _, h => by simp [treeOf] at h
  | n + 1, ds, T, h => by
    simp only [treeOf] at h
    split at h
    · rename_i l hl
      cases h
      intro l' hl'
      simp only [CT.leaves, List.mem_singleton] at hl'
      subst hl'
      exact ⟨ds, hl⟩
    · split at h
      · rename_i t f ht hf
        cases h
        intro l hl
        simp only [CT.leaves, List.mem_append] at hl
        rcases hl with hl | hl
        · exact treeOf_run ht l hl
        · exact treeOf_run hf l hl
      · cases h
    · cases h

/-! ### arguments -/
theorem AVs.get {ks : List AK} {xs : List AV} (h : AVs w ks xs) : ∀ (i : Nat) k, ks[i]? = some k → ∃ x, xs[i]? = some x ∧ x.ok w k := by
  induction h with
  | nil => intro i k hi; simp at hi
  | cons h t ih =>
    intro i k hi
    cases i with
    | zero => simp at hi; subst hi; exact ⟨_, rfl, h⟩
    | succ i => simpa using ih i k (by simpa using hi)

theorem AVs.len {ks : List AK} {xs : List AV} (h : AVs w ks xs) : xs.length = ks.length := by
  induction h with
  | nil => rfl
  | cons h t ih => simp [ih]

theorem ints_len {k : AK} {x : AV} (h : x.ok w k) : x.ints.length = k.width := by
  cases k <;> cases x <;> simp only [AV.ok] at h <;> simp only [AV.ints, AK.width, List.length_singleton]
  · exact h.1
  · exact h.1
  · exact h.1

theorem AVs.ints_at {ks : List AK} {xs : List AV} (h : AVs w ks xs) : ∀ (i : Nat) k x, ks[i]? = some k → xs[i]? = some x → ∀ d, d < k.width → (xs.flatMap AV.ints).getD (startOf ks i + d) 0 = x.ints.getD d 0 := by
  induction h with
  | nil => intro i k x hi; simp at hi
  | @cons k0 x0 ks xs h t ih =>
    intro i k x hi hx d hd
    have hl := ints_len h
    cases i with
    | zero =>
      simp at hi hx
      subst hi hx
      simp only [startOf, Nat.zero_add, List.flatMap_cons, List.getD_eq_getElem?_getD]
      rw [List.getElem?_append_left (by omega)]
    | succ i =>
      have := ih i k x (by simpa using hi) (by simpa using hx) d hd
      simp only [startOf, List.flatMap_cons, List.getD_eq_getElem?_getD] at this ⊢
      rw [List.getElem?_append_right (by omega), ← this]
      congr 2
      omega

theorem AVs.vals {ks : List AK} {xs : List AV} (h : AVs w ks xs) : (argVals ks xs).length = ks.length ∧ ∀ (i : Nat) k x, ks[i]? = some k → xs[i]? = some x → (argVals ks xs)[i]? = some (x.val k) := by
  induction h with
  | nil => exact ⟨rfl, fun i k x hi => by simp at hi⟩
  | cons h t ih =>
    refine ⟨by simp [argVals, ih.1], fun i k x hi hx => ?_⟩
    cases i with
    | zero => simp at hi hx; subst hi hx; rfl
    | succ i => simpa [argVals] using ih.2 i k x (by simpa using hi) (by simpa using hx)

theorem holdsAll_append : ∀ {ks ks' : List K} {xs xs' : List Int}, holdsAll ks xs → holdsAll ks' xs' → holdsAll (ks ++ ks') (xs ++ xs')
  | [], ks', [], xs', _, h => h
  | k :: ks, ks', x :: xs, xs', h, h' => ⟨h.1, holdsAll_append h.2 h'⟩
  | [], _, _ :: _, _, h, _ => by simp [holdsAll] at h
  | _ :: _, _, [], _, h, _ => by simp [holdsAll] at h

theorem holdsAll_u64s : ∀ {ws : List Int}, u64s ws → holdsAll (List.replicate ws.length (.i .u64)) ws
  | [], _ => trivial
  | x :: ws, h => ⟨h x (by simp), holdsAll_u64s fun y hy => h y (by simp [hy])⟩

theorem AVs.holds {ks : List AK} {xs : List AV} (h : AVs w ks xs) : holdsAll (ks.flatMap fun | .sc k => [k] | .cn _ => [.i .i64] | .ptr n | .slc n | .agg n => List.replicate n (.i .u64)) (xs.flatMap AV.ints) := by
  induction h with
  | nil => trivial
  | @cons k x ks xs h t ih =>
    simp only [List.flatMap_cons]
    refine holdsAll_append ?_ ih
    cases k <;> cases x <;> simp only [AV.ok] at h <;> simp only [AV.ints]
    · exact ⟨h, trivial⟩
    · exact ⟨by rw [h.1]; exact h.2, trivial⟩
    · rw [← h.1]; exact holdsAll_u64s h.2.1
    · rw [← h.1]; exact holdsAll_u64s h.2.2.1
    · rw [← h.1]; exact holdsAll_u64s h.2

theorem alook_zip {α : Type} (g : Nat → AK → α) (t : Nat) : ∀ (ks : List AK) (n : Nat), alook ((ks.zipIdx n).map fun (k, i) => (i, g i k)) t = if t < n then none else (ks[t - n]?).map (g t)
  | [], n => by simp [alook]
  | k :: ks, n => by
    simp only [List.zipIdx_cons, List.map_cons, alook]
    by_cases h : n = t
    · subst h; simp
    · have h' : (n == t) = false := by simpa using h
      rw [h', alook_zip g t ks (n + 1)]
      simp only [Bool.false_eq_true, if_false]
      by_cases h1 : t < n
      · rw [if_pos (by omega), if_pos h1]
      · rw [if_neg (by omega), if_neg h1, show t - n = (t - (n + 1)) + 1 by omega, List.getElem?_cons_succ]

theorem alook_zipf {α : Type} (g : Nat → AK → Option α) (t : Nat) : ∀ (ks : List AK) (n : Nat), alook ((ks.zipIdx n).filterMap fun (k, i) => (g i k).map (i, ·)) t = if t < n then none else (ks[t - n]?).bind (g t)
  | [], n => by simp [alook]
  | k :: ks, n => by
    have ih := alook_zipf g t ks (n + 1)
    simp only [List.zipIdx_cons, List.filterMap_cons]
    by_cases h : n = t
    · subst h
      rw [if_pos (Nat.lt_succ_self n)] at ih
      cases hg : g n k with
      | none => simp [ih, hg]
      | some y => simp [alook, hg]
    · have h' : (n == t) = false := by simpa using h
      have h2 : (if t < n + 1 then none else (ks[t - (n + 1)]?).bind (g t)) = if t < n then none else ((k :: ks)[t - n]?).bind (g t) := by
        by_cases h1 : t < n
        · rw [if_pos (by omega), if_pos h1]
        · rw [if_neg (by omega), if_neg h1, show t - n = (t - (n + 1)) + 1 by omega, List.getElem?_cons_succ]
      rw [← h2, ← ih]
      cases hg : g n k with
      | none => simp
      | some y => simp [alook, h']

end
end Go.Sym
