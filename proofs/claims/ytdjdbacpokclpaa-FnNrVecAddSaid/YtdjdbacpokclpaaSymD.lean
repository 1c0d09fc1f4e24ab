/- Symbolic runs of straight Go code over the model: arithmetic, conversions, addresses, literals, built-in calls. -/
import Derived.Test.YtdjdbacpokclpaaSymC
import Derived.Laws.StructEq
import Derived.Laws.Small
namespace Go.Sym
section
variable {P : Program} {cx : Cx} {Φ : Nat → List Int → List Int} {ρ : Nat → Int} {β : Nat → Nat × Nat} {V : View} {o : Oper} {a : Act} {w : World} {out : Out}

theorem b2i_ne (b : Bool) : (!(b2i b == 0)) = b := by cases b <;> rfl

theorem run_arith {op : BinOp} {t : TypeId} {k : IntKind} {m n : Int} (h : op = .add ∨ op = .sub ∨ op = .mul ∨ op = .and ∨ op = .or ∨ op = .xor ∨ op = .andNot) (w : World) :
    (binOp op t (.int k m) (.int k n)).run P w = .ok (.int k (binV op k m n)) w := by
  rcases h with rfl | rfl | rfl | rfl | rfl | rfl | rfl <;> simp [go_sem, binV]

theorem run_cmp {op : BinOp} {t : TypeId} {k : IntKind} {m n : Int} (h : op = .eql ∨ op = .neq ∨ op = .lss ∨ op = .leq ∨ op = .gtr ∨ op = .geq) (w : World) :
    (binOp op t (.int k m) (.int k n)).run P w = .ok (.bool (cmpV op m n)) w := by
  rcases h with rfl | rfl | rfl | rfl | rfl | rfl <;> simp [go_sem, cmpV]

theorem exec_bin {op : BinOp} {t t2 : TypeId} {x y : Operand} {k : IntKind} {m n : Int} {v : Value} (ho : o.op = .binOp op t x y t2) (hx : a.eval x = .int k m) (hy : a.eval y = .int k n)
    (h : (binOp op t (.int k m) (.int k n)).run P w = .ok v w) : (execOp a.eval o).run P w = .ok (.value v) w := by
  simp [execOp, ho, hx, hy, eqGuard_at_int, h]

theorem runs_int {op : BinOp} {t t2 : TypeId} {x y : Operand} {k : IntKind} {ex ey : E} (ho : o.op = .binOp op t x y t2) (hx : a.eval x = .int k (ex.den ρ)) (hy : a.eval y = .int k (ey.den ρ))
    (h : aInt V op k ex ey = some out) (hI : InsOK Φ ρ V.nv out.ins) (nr : Nat) : Runs P o a w ρ β nr out := by
  have A : (op = .add ∨ op = .sub ∨ op = .mul ∨ op = .and ∨ op = .or ∨ op = .xor ∨ op = .andNot) → out = { sv := .s (.int k (.v V.nv)), ins := [(.i k, .bin op k ex ey)] } → Runs P o a w ρ β nr out := by
    intro hop hout
    subst hout
    obtain ⟨h1, _⟩ := insOK_one hI
    exact runs_pure (exec_bin ho hx hy (run_arith hop w)) (by simp only [SV.den, S.den, E.den_v, h1, I.val]) rfl rfl
  have B : (op = .eql ∨ op = .neq ∨ op = .lss ∨ op = .leq ∨ op = .gtr ∨ op = .geq) → out = { sv := .s (.bool (.v V.nv)), ins := [(.bool, .cmp op ex ey)] } → Runs P o a w ρ β nr out := by
    intro hop hout
    subst hout
    obtain ⟨h1, _⟩ := insOK_one hI
    exact runs_pure (exec_bin ho hx hy (run_cmp hop w)) (by simp only [SV.den, S.den, E.den_v, h1, I.val, b2i_ne]) rfl rfl
  unfold aInt at h
  split at h
  case isFalse => cases h
  split at h <;> first
    | (cases h; done)
    | (simp only [Option.some.injEq] at h; first | exact A (by simp) h.symm | exact B (by simp) h.symm)

theorem runs_intC {op : BinOp} {t t2 : TypeId} {x y : Operand} {k : IntKind} {ex ey : E} (ho : o.op = .binOp op t x y t2) (hx : a.eval x = .int k (ex.den ρ)) (hy : a.eval y = .int k (ey.den ρ))
    (h : aIntC V op k ex ey = some out) (hI : InsOK Φ ρ V.nv out.ins) (nr : Nat) : Runs P o a w ρ β nr out := by
  unfold aIntC at h
  split at h
  · rename_i m n
    simp only [E.den_c] at hx hy
    have A : (op = .add ∨ op = .sub ∨ op = .mul ∨ op = .and ∨ op = .or ∨ op = .xor ∨ op = .andNot) → out = { sv := .s (.int k (.c (binV op k m n))) } → Runs P o a w ρ β nr out := by
      intro hop hout
      subst hout
      exact runs_pure (exec_bin ho hx hy (run_arith hop w)) rfl rfl rfl
    have B : (op = .eql ∨ op = .neq ∨ op = .lss ∨ op = .leq ∨ op = .gtr ∨ op = .geq) → out = { sv := .s (.bool (.c (b2i (cmpV op m n)))) } → Runs P o a w ρ β nr out := by
      intro hop hout
      subst hout
      exact runs_pure (exec_bin ho hx hy (run_cmp hop w)) (by simp only [SV.den, S.den, E.den_c, b2i_ne]) rfl rfl
    split at h
    case isFalse => cases h
    split at h <;> first
      | (cases h; done)
      | (simp only [Option.some.injEq] at h; first | exact A (by simp) h.symm | exact B (by simp) h.symm)
  · exact runs_int ho hx hy h hI nr

theorem runs_shift {op : BinOp} {t t2 : TypeId} {x y : Operand} {k yk : IntKind} {ex ey : E} (ho : o.op = .binOp op t x y t2) (hop : op = .shl ∨ op = .shr) (hx : a.eval x = .int k (ex.den ρ)) (hy : a.eval y = .int yk (ey.den ρ))
    (hk : ∀ i k, V.kd i = some k → k.holds (ρ i)) (h : aShift V op k yk ex ey = some out) (hI : InsOK Φ ρ V.nv out.ins) (nr : Nat) : Runs P o a w ρ β nr out := by
  unfold aShift at h
  split at h
  case isFalse => cases h
  rename_i hif
  simp only [Bool.and_eq_true, Bool.or_eq_true, beq_iff_eq] at hif
  obtain ⟨⟨_, _⟩, hy0⟩ := hif
  have hnn : 0 ≤ ey.den ρ := by
    rcases hy0 with ⟨_, h0⟩ | h0
    · have := kdE_holds hk h0; exact this.1
    · cases ey with
      | c n => simpa [E.den, E.nonneg] using h0
      | v i => simp [E.nonneg] at h0
  have hnot : ¬ ey.den ρ < 0 := by omega
  rcases hop with rfl | rfl
  · simp only at h
    split at h
    · cases h
      simp only [E.den_c] at hx hy hnot
      refine runs_pure (v := _) ?_ rfl rfl rfl
      simp only [execOp, ho, hx, hy, Sem.run_bind, eqGuard_at_int, Sem.run_pure, Result.andThen_ok, binOp_shl, Op.shift, hnot, if_false, SV.den, S.den, E.den_c]
      try rfl
    · cases h
      obtain ⟨h1, _⟩ := insOK_one hI
      refine runs_pure (v := .int k (k.wrap (ex.den ρ * 2 ^ (Nat.min (ey.den ρ).toNat k.bits)))) ?_ (by simp only [SV.den, S.den, E.den_v, h1, I.val]) rfl rfl
      simp only [execOp, ho, hx, hy, Sem.run_bind, eqGuard_at_int, Sem.run_pure, Result.andThen_ok, binOp_shl, Op.shift, hnot, if_false]
      try rfl
  · simp only at h
    cases h
    obtain ⟨h1, _⟩ := insOK_one hI
    refine runs_pure (v := .int k ((ex.den ρ).fdiv (2 ^ (Nat.min (ey.den ρ).toNat k.bits)))) ?_ (by simp only [SV.den, S.den, E.den_v, h1, I.val]) rfl rfl
    simp only [execOp, ho, hx, hy, Sem.run_bind, eqGuard_at_int, Sem.run_pure, Result.andThen_ok, binOp_shr, Op.shift, hnot, if_false]
    try rfl

theorem words_spec (hk : ∀ i k, V.kd i = some k → k.holds (ρ i)) : ∀ {xs : List S} {es : List E}, words V xs = some es → es.length = xs.length ∧
    xs.map (S.den ρ β) = (es.map (E.den ρ)).map (Value.int .u64) ∧ u64s (es.map (E.den ρ)) ∧ (∀ x ∈ xs, x.ref = none)
  | [], es, h => by simp [words] at h; subst h; exact ⟨rfl, rfl, by intro x hx; simp at hx, by simp⟩
  | x :: xs, es, h => by
    unfold words at h
    split at h
    · rename_i h1; simp at h1
    · rename_i e rest h1
      simp only [List.cons.injEq] at h1
      obtain ⟨rfl, rfl⟩ := h1
      split at h
      · rename_i hke
        simp only [Option.map_eq_some_iff] at h
        obtain ⟨es', hes, rfl⟩ := h
        obtain ⟨i1, i2, i3, i4⟩ := words_spec hk hes
        refine ⟨by simp [i1], by simp only [List.map_cons, i2, S.den], ?_, ?_⟩
        · intro y hy
          simp only [List.map_cons, List.mem_cons] at hy
          rcases hy with rfl | hy
          · exact kdE_holds hk hke
          · exact i3 y hy
        · intro y hy
          simp only [List.mem_cons] at hy
          rcases hy with rfl | hy
          · rfl
          · exact i4 y hy
      · cases h
    · cases h

theorem eqsV_eq (ρ : Nat → Int) : ∀ (xs ys : List E), eqsV ρ xs ys = (xs.map (E.den ρ) == ys.map (E.den ρ))
  | [], [] => rfl
  | [], y :: ys => by simp [eqsV]
  | x :: xs, [] => by simp [eqsV]
  | x :: xs, y :: ys => by simp [eqsV, eqsV_eq ρ xs ys]

theorem drop_cons_eq {i : Nat} {l : List Int} (h : i < l.length) : l.drop i = l[i] :: l.drop (i + 1) := (List.drop_eq_getElem_cons h)

theorem forIn_early {f : Nat → Option Bool × Unit → Sem (ForInStep (Option Bool × Unit))} {n : Nat} (E : Nat → Bool)
    (hf : ∀ i w, i < n → (f i (none, ())).run P w = .ok (if E i then .yield (none, ()) else .done (some false, ())) w) :
    ∀ (m i : Nat), i + m = n → ∀ w, (forIn (List.range' i m 1) ((none, ()) : Option Bool × Unit) f).run P w = .ok (if (List.range' i m 1).all E then (none, ()) else (some false, ())) w
  | 0, i, _, w => by simp
  | m + 1, i, hi, w => by
    have h1 := hf i w (by omega)
    simp only [List.range'_succ, List.forIn_cons, Sem.run_bind, h1, Result.andThen_ok, List.all_cons]
    cases hE : E i
    · simp
    · simp only [if_true, Bool.true_and]
      exact forIn_early E hf m (i + 1) (by omega) w

theorem all_range_eq (xs ys : List Int) (n : Nat) (hx : xs.length = n) (hy : ys.length = n) : (List.range' 0 n 1).all (fun i => xs.getD i 0 == ys.getD i 0) = (xs == ys) := by
  rw [Bool.eq_iff_iff, List.all_eq_true, beq_iff_eq]
  constructor
  · intro h
    apply List.ext_getElem (by omega)
    intro i h1 h2
    have := h i (by simp; omega)
    simpa [h1, h2] using this
  · rintro rfl i _
    simp

theorem run_equalIn_arr (d : Nat) {t t' : TypeId} {n : Nat} {xs ys : List Int} (ht : P.underlying t = some (.array n t')) (ht' : P.underlying t' = some (.int .u64)) (hs : sizeB P t' = some 1)
    (hx : xs.length = n) (hy : ys.length = n) (w : World) :
    (Op.equalIn (d + 2) t (.agg (xs.map (Value.int .u64)).toArray) (.agg (ys.map (Value.int .u64)).toArray)).run P w = .ok (xs == ys) w := by
  have hag : ∀ w, (isAgg t').run P w = .ok false w := fun w => isAggB_run (by simp [isAggB, ht']) w
  rw [Op.equalIn]
  simp only [Sem.run_bind, run_underlying ht, Result.andThen_ok, sizeB_run hs, Std.Legacy.Range.forIn_eq_forIn_range', Std.Legacy.Range.size]
  have hn : (n - 0 + 1 - 1) / 1 = n := by omega
  rw [hn, forIn_early (n := n) (fun i => xs.getD i 0 == ys.getD i 0) ?_ n 0 (by omega)]
  · rw [all_range_eq xs ys n hx hy]
    cases hE : (xs == ys) <;> simp
  · intro i w hi
    have p1 : (part t' ((xs.map (Value.int .u64)).toArray) (i * 1)).run P w = .ok (.int .u64 (xs.getD i 0)) w := by
      have : i < xs.length := by omega
      simp [part, hag, this]
    have p2 : (part t' ((ys.map (Value.int .u64)).toArray) (i * 1)).run P w = .ok (.int .u64 (ys.getD i 0)) w := by
      have : i < ys.length := by omega
      simp [part, hag, this]
    simp only [Sem.run_bind, p1, p2, Result.andThen_ok, run_equalIn_int w d t' _ _ _ _ ht', Sem.run_ite]
    cases hE : (xs.getD i 0 == ys.getD i 0) <;> simp


theorem SV.agg_den {xs : List S} {es : List E} (hk : ∀ i k, V.kd i = some k → k.holds (ρ i)) (h : words V xs = some es) : (SV.agg xs).den ρ β = .agg ((es.map (E.den ρ)).map (Value.int .u64)).toArray := by
  simp only [SV.den, (words_spec (β := β) hk h).2.1]

theorem runs_rem {t t2 : TypeId} {x y : Operand} {k : IntKind} {ex ey : E} (ho : o.op = .binOp .rem t x y t2) (hx : a.eval x = .int k (ex.den ρ)) (hy : a.eval y = .int k (ey.den ρ))
    (hk : ∀ i k, V.kd i = some k → k.holds (ρ i)) (h : aRem V k ex ey = some out) (hI : InsOK Φ ρ V.nv out.ins) (nr : Nat) : Runs P o a w ρ β nr out := by
  unfold aRem at h
  split at h
  · rename_i n
    split at h
    case isFalse => cases h
    rename_i hif
    obtain ⟨hn, hke⟩ := hif
    cases h
    obtain ⟨h1, _⟩ := insOK_one hI
    have hh := kdE_holds hk hke
    simp only [K.holds] at hh
    simp only [E.den_c] at hy
    have hw : IntKind.u64.wrap ((ex.den ρ).tmod n) = (ex.den ρ).tmod n := by
      have e0 : (ex.den ρ).tmod n = (ex.den ρ) % n := Int.tmod_eq_emod_of_nonneg hh.1
      have e1 : 0 ≤ (ex.den ρ) % n := Int.emod_nonneg _ (by omega)
      have e2 : (ex.den ρ) % n ≤ ex.den ρ := by
        rcases Int.lt_or_le (ex.den ρ) n with hc | hc
        · rw [Int.emod_eq_of_lt hh.1 hc]; exact Int.le_refl _
        · have := Int.emod_lt_of_pos (ex.den ρ) hn
          omega
      rw [e0]
      simp only [IntKind.wrap, IntKind.bits, IntKind.signed]
      simp
      omega
    have hne : ¬ n = 0 := by omega
    refine runs_pure (exec_bin ho hx hy (v := .int .u64 ((ex.den ρ).tmod n)) ?_) (by simp only [SV.den, S.den, E.den_v, h1, I.val, binV, E.den_c, hw]) rfl rfl
    simp [go_sem, Op.intDiv, hne]
  · rename_i n
    split at h
    · rename_i m
      split at h
      · cases h
      · rename_i hne
        cases h
        simp only [E.den_c] at hx hy
        refine runs_pure (exec_bin ho hx hy (v := .int .i64 (m.tmod n)) ?_) (by simp only [SV.den, S.den, E.den_c]) rfl rfl
        simp [go_sem, Op.intDiv, hne]
    · cases h
  · cases h

theorem runs_quo {t t2 : TypeId} {x y : Operand} {k : IntKind} {ex ey : E} (ho : o.op = .binOp .quo t x y t2) (hx : a.eval x = .int k (ex.den ρ)) (hy : a.eval y = .int k (ey.den ρ))
    (h : aQuo k ex ey = some out) (nr : Nat) : Runs P o a w ρ β nr out := by
  unfold aQuo at h
  split at h
  · rename_i m n
    split at h
    · cases h
    · rename_i hne
      cases h
      simp only [E.den_c] at hx hy
      refine runs_pure (exec_bin ho hx hy (v := .int k (k.wrap (m.tdiv n))) ?_) (by simp only [SV.den, S.den, E.den_c]) rfl rfl
      simp [go_sem, Op.intDiv, hne]
  · cases h

theorem runs_bin {op : BinOp} {t t2 : TypeId} {x y : Operand} (ho : o.op = .binOp op t x y t2) (hV : ViewOK V ρ β a o.op.operands) (h : aBin P V op t x y = some out) (hI : InsOK Φ ρ V.nv out.ins) (nr : Nat) :
    Runs P o a w ρ β nr out := by
  have hx0 := fun sv => hV.hv x (by simp [ho, Op.operands]) sv
  have hy0 := fun sv => hV.hv y (by simp [ho, Op.operands]) sv
  unfold aBin at h
  split at h
  · rename_i k ex k' ey hx hy
    have hx' := hx0 _ hx
    have hy' := hy0 _ hy
    simp only [SV.den, S.den] at hx' hy'
    split at h
    · exact runs_shift ho (.inl rfl) hx' hy' hV.kd h hI nr
    · exact runs_shift ho (.inr rfl) hx' hy' hV.kd h hI nr
    · split at h
      · rename_i hk; subst hk; exact runs_rem ho hx' hy' hV.kd h hI nr
      · cases h
    · split at h
      · rename_i hk; subst hk; exact runs_quo ho hx' hy' h nr
      · cases h
    · split at h
      · rename_i hk; subst hk; exact runs_intC ho hx' hy' h hI nr
      · cases h
  · rename_i ex ey hx hy
    have hx' := hx0 _ hx
    have hy' := hy0 _ hy
    simp only [SV.den, S.den] at hx' hy'
    split at h
    · rename_i ht
      cases h
      obtain ⟨h1, _⟩ := insOK_one hI
      refine runs_pure (v := .bool ((!(ex.den ρ == 0)) == (!(ey.den ρ == 0)))) ?_ ?_ rfl rfl
      · simp [execOp, ho, hx', hy', eqGuard_at_bool, binOp, run_equal_bool w t _ _ ht]
      · simp only [SV.den, S.den, E.den_v, h1, I.val, b2i_ne]
        cases ex.den ρ == 0 <;> cases ey.den ρ == 0 <;> rfl
    · cases h
  · rename_i xs ys hx hy
    have hx' := hx0 _ hx
    have hy' := hy0 _ hy
    split at h
    case h_2 => cases h
    rename_i n t' es fs ht hes hfs
    split at h
    case h_2 => cases h
    rename_i ht' hs
    split at h
    case isFalse => cases h
    rename_i hif
    obtain ⟨h1, h2, h3⟩ := hif
    cases h
    obtain ⟨hI1, _⟩ := insOK_one hI
    rw [SV.agg_den hV.kd hes] at hx'
    rw [SV.agg_den hV.kd hfs] at hy'
    refine runs_pure (v := .bool (es.map (E.den ρ) == fs.map (E.den ρ))) ?_ ?_ rfl rfl
    · have he := run_equalIn_arr (P := P) 9998 ht ht' hs (xs := es.map (E.den ρ)) (ys := fs.map (E.den ρ)) (by simpa using h1) (by simpa using h2) w
      simp only [execOp, ho, hx', hy', Sem.run_bind, run_eqGuard_agg (P := P) w _ t x y _ _ h3, Result.andThen_ok, run_eql_struct, he, Sem.run_pure]
    · simp only [SV.den, S.den, E.den_v, hI1, I.val, b2i_ne, eqsV_eq]
  · cases h

theorem runs_un {op : UnOp} {t : TypeId} {x : Operand} (ho : o.op = .unOp op t x) (hV : ViewOK V ρ β a o.op.operands) (h : aUn V op x = some out) (hI : InsOK Φ ρ V.nv out.ins) (nr : Nat) : Runs P o a w ρ β nr out := by
  have hx0 := fun sv => hV.hv x (by simp [ho, Op.operands]) sv
  unfold aUn at h
  split at h
  · rename_i e hx
    have hx' := hx0 _ hx
    simp only [SV.den, S.den] at hx'
    split at h
    · rename_i n
      cases h
      refine runs_pure (v := .bool (!(!(n == 0)))) ?_ (by simp only [SV.den, S.den, E.den_c, b2i_ne, Bool.not_not]) rfl rfl
      simp only [E.den_c] at hx'
      simp [execOp, ho, hx', Op.unary]
    · cases h
      obtain ⟨h1, _⟩ := insOK_one hI
      refine runs_pure (v := .bool (!(!(e.den ρ == 0)))) ?_ (by simp only [SV.den, S.den, E.den_v, h1, I.val, b2i_ne, Bool.not_not]) rfl rfl
      simp [execOp, ho, hx', Op.unary]
  · rename_i k e hx
    have hx' := hx0 _ hx
    simp only [SV.den, S.den] at hx'
    split at h
    · cases h
      obtain ⟨h1, _⟩ := insOK_one hI
      refine runs_pure (v := .int k (k.wrap (0 - e.den ρ))) ?_ (by simp only [SV.den, S.den, E.den_v, h1, I.val]) rfl rfl
      simp [execOp, ho, hx', Op.unary, Op.intArith]
    · cases h
  · rename_i k e hx
    have hx' := hx0 _ hx
    simp only [SV.den, S.den] at hx'
    split at h
    · cases h
      obtain ⟨h1, _⟩ := insOK_one hI
      refine runs_pure (v := .int k (bits .xor k (if k.signed then -1 else k.max) (e.den ρ))) ?_ (by simp only [SV.den, S.den, E.den_v, h1, I.val]) rfl rfl
      simp [execOp, ho, hx', Op.unary, intBits_xor]
    · cases h
  · cases h

theorem runs_cnv {src dst : TypeId} {x : Operand} (ho : o.op = .convert src dst x) (hV : ViewOK V ρ β a o.op.operands) (h : aCnv P V src dst x = some out) (hI : InsOK Φ ρ V.nv out.ins) (nr : Nat) : Runs P o a w ρ β nr out := by
  have hx0 := fun sv => hV.hv x (by simp [ho, Op.operands]) sv
  unfold aCnv at h
  split at h
  case h_2 => cases h
  rename_i k0 e hx
  have hx' := hx0 _ hx
  simp only [SV.den, S.den] at hx'
  split at h
  case h_2 => cases h
  rename_i d k hs hd
  split at h
  case isFalse => cases h
  have hrun : ∀ n, (convert src dst (.int k0 n)).run P w = .ok (.int k (k.wrap n)) w := fun n => by
    simp [convert, run_underlying hs, run_underlying hd, Conv.intToInt]
  split at h
  · rename_i n
    cases h
    refine runs_pure (v := .int k (k.wrap n)) ?_ (by simp only [SV.den, S.den, E.den_c]) rfl rfl
    simp only [E.den_c] at hx'
    simp [execOp, ho, hx', hrun]
  · cases h
    obtain ⟨h1, _⟩ := insOK_one hI
    refine runs_pure (v := .int k (k.wrap (e.den ρ))) ?_ (by simp only [SV.den, S.den, E.den_v, h1, I.val]) rfl rfl
    simp [execOp, ho, hx', hrun]

theorem runs_ext {x : Operand} {i : Nat} (ho : o.op = .extract x i) (hV : ViewOK V ρ β a o.op.operands) (h : aExt V x i = some out) (nr : Nat) : Runs P o a w ρ β nr out := by
  have hx0 := fun sv => hV.hv x (by simp [ho, Op.operands]) sv
  unfold aExt at h
  split at h
  · rename_i xs hx
    have hx' := hx0 _ hx
    simp only [SV.den] at hx'
    simp only [Option.map_eq_some_iff] at h
    obtain ⟨s, hs, rfl⟩ := h
    refine runs_pure (v := s.den ρ β) ?_ rfl rfl rfl
    simp [execOp, ho, hx', Instr.extract, hs]
  · cases h

theorem runs_idx {t : TypeId} {x ix : Operand} (ho : o.op = .indexAddr t x ix) (hV : ViewOK V ρ β a o.op.operands) (h : aIdx P V t x ix = some out) (nr : Nat) : Runs P o a w ρ β nr out := by
  have hx0 := fun sv => hV.hv x (by simp [ho, Op.operands]) sv
  have hi0 := fun sv => hV.hv ix (by simp [ho, Op.operands]) sv
  unfold aIdx at h
  split at h
  case h_2 => cases h
  rename_i k i hix
  have hi' := hi0 _ (View.int_some hix)
  simp only [SV.den, S.den, E.den_c] at hi'
  split at h
  · rename_i len t' r off ht hx
    have hx' := hx0 _ hx
    simp only [SV.den, S.den] at hx'
    split at h
    case h_2 => cases h
    rename_i sz hsz
    split at h
    case isFalse => cases h
    rename_i hif
    cases h
    refine runs_pure (v := .pointer (some ⟨(β r).1, (β r).2 + off + i.toNat * sz, none⟩)) ?_ (by simp only [SV.den, S.den, Nat.add_assoc]) rfl rfl
    simp [execOp, ho, hx', hi', Instr.indexAt, asIntOf, run_underlying ht, Instr.sureAddr, hif, sizeB_run hsz, addr_add]
  · rename_i t' r off len cap ht hx
    have hx' := hx0 _ hx
    simp only [SV.den, S.den] at hx'
    split at h
    case h_2 => cases h
    rename_i sz hsz
    split at h
    case isFalse => cases h
    rename_i hif
    cases h
    refine runs_pure (v := .pointer (some ⟨(β r).1, (β r).2 + off + i.toNat * sz, none⟩)) ?_ (by simp only [SV.den, S.den, Nat.add_assoc]) rfl rfl
    simp [execOp, ho, hx', hi', Instr.indexAt, asIntOf, run_underlying ht, hif, sizeB_run hsz, addr_add]
  · cases h

theorem runs_idv {t : TypeId} {x ix : Operand} (ho : o.op = .index t x ix) (hV : ViewOK V ρ β a o.op.operands) (h : aIdv P V t x ix = some out) (nr : Nat) : Runs P o a w ρ β nr out := by
  have hx0 := fun sv => hV.hv x (by simp [ho, Op.operands]) sv
  have hi0 := fun sv => hV.hv ix (by simp [ho, Op.operands]) sv
  unfold aIdv at h
  split at h
  case h_2 => cases h
  rename_i k i hix
  have hi' := hi0 _ (View.int_some hix)
  simp only [SV.den, S.den, E.den_c] at hi'
  split at h
  case h_2 => cases h
  rename_i len t' xs ht hx
  have hx' := hx0 _ hx
  simp only [SV.den] at hx'
  split at h
  case h_2 => cases h
  rename_i hsz hag
  split at h
  case isFalse => cases h
  rename_i hif
  simp only [Option.map_eq_some_iff] at h
  obtain ⟨s, hs, rfl⟩ := h
  refine runs_pure (v := s.den ρ β) ?_ rfl rfl rfl
  simp [execOp, ho, hx', hi', Instr.index, asIntOf, run_underlying ht, hif, sizeB_run hsz, part, isAggB_run hag, hs]

theorem runs_slice {t : TypeId} {x : Operand} (ho : o.op = .slice t x none none none) (hV : ViewOK V ρ β a o.op.operands) (h : aSlice P V t x = some out) (nr : Nat) : Runs P o a w ρ β nr out := by
  have hx0 := fun sv => hV.hv x (by simp [ho, Op.operands]) sv
  unfold aSlice at h
  split at h
  · rename_i n t' r off ht hx
    have hx' := hx0 _ hx
    simp only [SV.den, S.den] at hx'
    split at h
    · rename_i sz hsz
      cases h
      refine runs_pure (v := .slice (some ⟨(β r).1, (β r).2 + off, none⟩) n n) ?_ rfl rfl rfl
      simp [execOp, ho, hx', Instr.sliceAt, run_underlying ht, Instr.sureAddr, Instr.sliceBounds, sizeB_run hsz, addr_add]
    · cases h
  · cases h

theorem wrap_i64_small {n : Int} (h0 : 0 ≤ n) (h : n ≤ 1000) : IntKind.i64.wrap n = n := by
  rw [IntKind.wrap_i64]; omega

theorem zeros_list {z : Value} {s : S} (hz : z.cells.toList = [s.den ρ β]) (n : Nat) : ((Array.range n).map (fun i => z.cells[i % z.cells.size]!)) = ((List.replicate n s).map (S.den ρ β)).toArray := by
  have hz' : z.cells = #[s.den ρ β] := by rw [← Array.toArray_toList (xs := z.cells), hz]
  apply Array.ext'
  simp only [Array.toList_map, Array.toList_range, List.map_replicate, hz']
  rw [List.eq_replicate_iff]
  refine ⟨by simp, fun b hb => ?_⟩
  simp only [List.mem_map, List.mem_range] at hb
  obtain ⟨i, _, rfl⟩ := hb
  simp [Nat.mod_one]

theorem runs_make {t : TypeId} {l c : Operand} (ho : o.op = .makeSlice t l c) (hV : ViewOK V ρ β a o.op.operands) (h : aMake P V t l c = some out) : Runs P o a w ρ β V.nr out := by
  have hl0 := fun sv => hV.hv l (by simp [ho, Op.operands]) sv
  have hc0 := fun sv => hV.hv c (by simp [ho, Op.operands]) sv
  unfold aMake at h
  split at h
  case h_2 => cases h
  rename_i t' n m ht hl hc
  have hl' := hl0 _ (View.int_some hl)
  have hc' := hc0 _ (View.int_some hc)
  simp only [SV.den, S.den, E.den_c] at hl' hc'
  split at h
  case h_2 => cases h
  rename_i i z hi hz
  split at h
  case isFalse => cases h
  rename_i hif
  obtain ⟨rfl, h1, h2, h3, h4⟩ := hif
  cases h
  obtain ⟨zv, hzr, hzc⟩ := zeroCells_run (ρ := ρ) (β := β) hz
  have hsz : (sizeOf t').run P w = .ok 1 w := by simp [sizeOf, typeInfo, hi, h3]
  have hnn : n.toNat * 1 = n.toNat := by omega
  have hn0 : ¬ n.toNat = 0 := by omega
  have hb : ¬ ((i.bytes : Int) * n > 2 ^ 48) := by
    have : (i.bytes : Int) * n ≤ 8 * 1000 := Int.mul_le_mul (by omega) h2 (by omega) (by omega)
    omega
  refine runs_value (w' := w.alloc (.cells ((List.replicate n.toNat z).map (S.den ρ β)).toArray t')) (v := .slice (some ⟨w.heap.size, 0, none⟩) n.toNat n.toNat) ?_ (β' := fun r => if r = V.nr then (w.heap.size, 0) else β r) ?_ (eff_fresh rfl rfl _ _ _ _)
  · have e := zeros_list (ρ := ρ) (β := β) hzc n.toNat
    simp only [execOp, ho, hl', hc', Instr.makeSlice, Sem.run_bind, run_underlying ht, Result.andThen_ok, asInt, asIntOf, Sem.run_pure, typeInfo, run_program, hi, wrap_i64_small (by omega : 0 ≤ n) h2,
      Sem.run_ite]
    have hc1 : ((decide (n < 0) || decide ((i.bytes : Int) * n > 2 ^ 48)) || decide (n < 0) || decide (n > n)) = false := by
      simp only [Bool.or_eq_false_iff, decide_eq_false_iff_not]
      exact ⟨⟨⟨by omega, hb⟩, by omega⟩, by omega⟩
    simp only [hc1, Bool.false_eq_true, if_false, Sem.run_bind, run_askRoom, Result.andThen_ok, hsz, hnn, hn0, hzr, Sem.run_pure, newRow, run_newObj]
    first | rw [e] | skip
    rfl
  · simp [SV.den, S.den]

theorem onesAt_spec {β : Nat → Nat × Nat} : ∀ {ps : List (Nat × Operand)} {qs : List (Nat × S)}, onesAt V ps = some qs → (∀ x ∈ ps.map (·.2), ∀ sv, V.v x = some sv → a.eval x = sv.den ρ β) →
    ps.map (fun p => (p.1, a.eval p.2)) = qs.map (fun q => (q.1, q.2.den ρ β)) ∧ (∀ q ∈ qs, q.2.plain = true) ∧ (∀ q ∈ qs, ∃ x ∈ ps.map (·.2), V.v x = some (.s q.2))
  | [], qs, h, _ => by simp [onesAt] at h; subst h; simp
  | (i, x) :: ps, qs, h, hv => by
    unfold onesAt at h
    split at h
    case h_2 => cases h
    rename_i s hs
    split at h
    case isFalse => cases h
    rename_i hp
    simp only [Option.map_eq_some_iff] at h
    obtain ⟨qs', hq, rfl⟩ := h
    obtain ⟨i1, i2, i3⟩ := onesAt_spec (β := β) hq (fun y hy => hv y (by simp only [List.map_cons, List.mem_cons]; exact .inr hy))
    have hx := hv x (by simp) _ hs
    refine ⟨by simp only [List.map_cons, i1, hx, SV.den], ?_, ?_⟩
    · intro q hq'
      simp only [List.mem_cons] at hq'
      rcases hq' with rfl | hq'
      · exact hp
      · exact i2 q hq'
    · intro q hq'
      simp only [List.mem_cons] at hq'
      rcases hq' with rfl | hq'
      · exact ⟨x, by simp, hs⟩
      · obtain ⟨y, hy, e⟩ := i3 q hq'
        exact ⟨y, by simp only [List.map_cons, List.mem_cons]; exact .inr hy, e⟩

theorem plain_cells {s : S} (h : s.plain = true) : (s.den ρ β).cells = #[s.den ρ β] := by
  cases s <;> simp [S.plain, S.den, Value.cells] at *

theorem fill_spec (place : Nat → Option (Nat × Nat)) (hpl : ∀ i, place i = some (i, 1)) : ∀ (qs : List (Nat × S)) (cs : List S), (∀ q ∈ qs, q.2.plain = true) → (∀ q ∈ qs, q.1 < cs.length) →
    Instr.fill place ((cs.map (S.den ρ β)).toArray) (qs.map fun q => (q.1, q.2.den ρ β)) = some (((fillS cs qs).map (S.den ρ β)).toArray)
  | [], cs, _, _ => by simp [Instr.fill, fillS]
  | q :: qs, cs, hp, hl => by
    have hq := hp q (by simp)
    have hlt := hl q (by simp)
    have ih := fill_spec place hpl qs (cs.set q.1 q.2) (fun x hx => hp x (by simp [hx])) (fun x hx => by simpa using hl x (by simp [hx]))
    have hc : ¬ (((q.2.den ρ β).cells.size != 1 || decide (q.1 + (q.2.den ρ β).cells.size > ((cs.map (S.den ρ β)).toArray).size)) = true) := by
      rw [plain_cells hq]
      simp
      omega
    simp only [List.map_cons, Instr.fill, hpl]
    rw [if_neg (by simpa using hc)]
    rw [plain_cells hq]
    have e : ((#[q.2.den ρ β] : Array Value).zipIdx.foldl (fun cs (c, j) => cs.setIfInBounds (q.1 + j) c) ((cs.map (S.den ρ β)).toArray)) = (((cs.set q.1 q.2).map (S.den ρ β)).toArray) := by
      simp [List.map_set]
    rw [e]
    exact ih

theorem runs_build {t : TypeId} {ps : Array (Nat × Operand)} (ho : o.op = .build t ps) (hV : ViewOK V ρ β a o.op.operands) (h : aBuild P V t ps = some out) (nr : Nat) : Runs P o a w ρ β nr out := by
  have hv0 : ∀ x ∈ ps.toList.map (·.2), ∀ sv, V.v x = some sv → a.eval x = sv.den ρ β := fun x hx sv => hV.hv x (by simpa [ho, Op.operands] using hx) sv
  unfold aBuild at h
  split at h
  case h_2 => cases h
  rename_i n t' zs ht hz
  split at h
  case h_2 => cases h
  rename_i qs hs hq
  split at h
  case isFalse => cases h
  rename_i hall
  cases h
  obtain ⟨zv, hzr, hzc⟩ := zeroCells_run (ρ := ρ) (β := β) hz
  obtain ⟨i1, i2, _⟩ := onesAt_spec hq hv0
  have hzv : zv.cells = ((zs.map (S.den ρ β)).toArray) := by rw [← hzc]
  have hf := fill_spec (ρ := ρ) (β := β) (fun i => some (i * 1, 1)) (by simp) qs zs i2 (by simpa using hall)
  have hps : (ps.map fun (i, x) => (i, a.eval x)).toList = qs.map (fun q => (q.1, q.2.den ρ β)) := by
    rw [Array.toList_map]; exact i1
  refine runs_pure (v := .agg (((fillS zs qs).map (S.den ρ β)).toArray)) ?_ rfl rfl rfl
  simp only [execOp, ho, Instr.build, Sem.run_bind, hzr, Result.andThen_ok, run_underlying ht, sizeB_run hs, hzv, hps, hf, Sem.run_pure]

theorem runs_buildSlice {t : TypeId} {n : Nat} {ps : Array (Nat × Operand)} (ho : o.op = .buildSlice t n ps) (hV : ViewOK V ρ β a o.op.operands) (h : aBuildSlice P V t n ps = some out) : Runs P o a w ρ β V.nr out := by
  have hv0 : ∀ x ∈ ps.toList.map (·.2), ∀ sv, V.v x = some sv → a.eval x = sv.den ρ β := fun x hx sv => hV.hv x (by simpa [ho, Op.operands] using hx) sv
  unfold aBuildSlice at h
  split at h
  case h_2 => cases h
  rename_i t' ht
  split at h
  case h_2 => cases h
  rename_i z qs hs hz hq
  split at h
  case isFalse => cases h
  rename_i hif
  obtain ⟨h0, h1, hall⟩ := hif
  cases h
  obtain ⟨zv, hzr, hzc⟩ := zeroCells_run (ρ := ρ) (β := β) hz
  obtain ⟨i1, i2, _⟩ := onesAt_spec hq hv0
  have hf := fill_spec (ρ := ρ) (β := β) (fun i => some (i * 1, 1)) (by simp) qs (List.replicate n z) i2 (by simpa using hall)
  have hps : (ps.map fun (i, x) => (i, a.eval x)).toList = qs.map (fun q => (q.1, q.2.den ρ β)) := by
    rw [Array.toList_map]; exact i1
  have e := zeros_list (ρ := ρ) (β := β) hzc n
  have hle : ¬ n > 2 ^ 24 := by omega
  have hne : ¬ n = 0 := by omega
  have hn1 : n * 1 = n := by omega
  refine runs_value (w' := w.alloc (.cells (((fillS (List.replicate n z) qs).map (S.den ρ β)).toArray) t')) (v := .slice (some ⟨w.heap.size, 0, none⟩) n n) ?_ (β' := fun r => if r = V.nr then (w.heap.size, 0) else β r) ?_ (eff_fresh rfl rfl _ _ _ _)
  · simp only [execOp, ho, Instr.buildSlice, Sem.run_bind, run_underlying ht, Result.andThen_ok, sizeB_run hs, hn1, hle, hne, if_false, hzr, hps, Sem.run_pure, Sem.run_ite]
    rw [e]
    simp only [hf, newRow, Sem.run_bind, run_newObj, Result.andThen_ok, Sem.run_pure]
    rfl
  · simp [SV.den, S.den]

theorem runs_len {ats : Array TypeId} {as : Array Operand} (ho : o.op = .call { callee := .builtin .len, args := as, argTypes := ats }) (hV : ViewOK V ρ β a o.op.operands) (h : aLen P V ats as = some out) (nr : Nat) : Runs P o a w ρ β nr out := by
  unfold aLen at h
  split at h
  case h_2 => cases h
  rename_i t x hats has
  have hats' : ats = #[t] := by rw [← Array.toArray_toList (xs := ats), hats]
  have has' : as = #[x] := by rw [← Array.toArray_toList (xs := as), has]
  subst hats' has'
  split at h
  case h_2 => cases h
  rename_i t' r off len cap ht hx
  cases h
  have hx' := hV.hv x (by simp [ho, Op.operands, Call.operands]) _ hx
  simp only [SV.den, S.den] at hx'
  refine runs_pure (v := .int .i64 len) ?_ rfl rfl rfl
  simp [execOp, ho, resolve, invoke, builtin, hx', Builtin.len_, run_underlying ht, goInt]

theorem runs_maxmin {b : Builtin} {mx : Bool} (hb : b = if mx then .max else .min) {ats : Array TypeId} {as : Array Operand} (ho : o.op = .call { callee := .builtin b, args := as, argTypes := ats }) (hV : ViewOK V ρ β a o.op.operands)
    (h : aMaxMin V mx as = some out) (hI : InsOK Φ ρ V.nv out.ins) (nr : Nat) : Runs P o a w ρ β nr out := by
  unfold aMaxMin at h
  split at h
  case h_2 => cases h
  rename_i x y has
  have has' : as = #[x, y] := by rw [← Array.toArray_toList (xs := as), has]
  subst has'
  split at h
  case h_2 => cases h
  rename_i k ex k' ey hx hy
  split at h
  case isFalse => cases h
  rename_i hif
  obtain ⟨rfl, _⟩ := hif
  cases h
  obtain ⟨h1, _⟩ := insOK_one hI
  have hx' := hV.hv x (by simp [ho, Op.operands, Call.operands]) _ (View.int_some hx)
  have hy' := hV.hv y (by simp [ho, Op.operands, Call.operands]) _ (View.int_some hy)
  simp only [SV.den, S.den] at hx' hy'
  cases mx
  · simp only [Bool.false_eq_true, if_false] at hb h1
    subst hb
    refine runs_pure (v := .int k (if ey.den ρ < ex.den ρ then ey.den ρ else ex.den ρ)) ?_ (by simp only [SV.den, S.den, E.den_v, h1, I.val]) rfl rfl
    simp [execOp, ho, resolve, invoke, builtin, hx', hy', Builtin.min_, Builtin.min2]
  · simp only [if_true] at hb h1
    subst hb
    refine runs_pure (v := .int k (if ex.den ρ < ey.den ρ then ey.den ρ else ex.den ρ)) ?_ (by simp only [SV.den, S.den, E.den_v, h1, I.val]) rfl rfl
    simp [execOp, ho, resolve, invoke, builtin, hx', hy', Builtin.max_, Builtin.max2]

end
end Go.Sym
