/- Symbolic runs of straight Go code over the model: a function's summary, from the ways through its body. -/
import Derived.Test.YtdjdbacpokclpaaSymN
namespace Go.Sym

def placeAt (xs : List AV) (r : Nat) : Option (Nat × Nat × Nat) := (xs[r]?).bind AV.place
def beta0 (xs : List AV) (r : Nat) : Nat × Nat := match placeAt xs r with | some (b, o, _) => (b, o) | none => (0, 0)
def alen0 (xs : List AV) (r : Nat) : Nat := match placeAt xs r with | some (_, _, n) => n | none => 0

section
variable {P : Program} {Φ : Nat → List Int → List Int} {ρ : Nat → Int} {β : Nat → Nat × Nat} {w : World} {s : Summ} {al : Option Nat} {xs : List AV} {tbl : List (Nat × Summ)}

structure Start (s : Summ) (al : Option Nat) (xs : List AV) (w : World) : Prop where
  avs : AVs w s.args xs
  un : ∀ b o n, wrPlace s xs = some (b, o, n) → unfrozenAt w b o n
  alias : al = none ∨ ∃ i j n p q, s.wr = some i ∧ al = some j ∧ j ≠ i ∧ s.args[i]? = some (.ptr n) ∧ s.args[j]? = some (.ptr n) ∧ placeAt xs i = some p ∧ placeAt xs j = some q ∧ p.1 = q.1 ∧ p.2.1 = q.2.1
  apart : ∀ i p, s.wr = some i → placeAt xs i = some p → ∀ j q, j ≠ i → placeAt xs j = some q → al ≠ some j → apartPl p q

theorem slots_at (ds : List Bool) (t : Nat) : alook (initSt s al ds).slots t = (s.args[t]?).map (argSV s al t) := by
  simpa [initSt] using alook_zip (argSV s al) t s.args 0

theorem mem_at (ds : List Bool) (t : Nat) : alook (initSt s al ds).mem t = (s.args[t]?).bind (argMem s al t) := by
  simpa [initSt] using alook_zipf (argMem s al) t s.args 0

theorem kinds_len : ∀ (ks : List AK), (ks.flatMap fun | .sc k => [k] | .cn _ => [.i .i64] | .ptr n | .slc n | .agg n => List.replicate n (K.i .u64)).length = (ks.map AK.width).sum
  | [] => rfl
  | k :: ks => by
    rw [List.flatMap_cons, List.length_append, kinds_len ks, List.map_cons, List.sum_cons]
    cases k <;> simp [AK.width]

theorem start_lt : ∀ (ks : List AK) (i : Nat) (k : AK), ks[i]? = some k → startOf ks i + k.width ≤ (ks.map AK.width).sum
  | [], i, k, h => by simp at h
  | k0 :: ks, 0, k, h => by
    simp at h; subst h
    simp [startOf]
  | k0 :: ks, i + 1, k, h => by
    have := start_lt ks i k (by simpa using h)
    simp only [startOf, List.map_cons, List.sum_cons]
    omega

/-- What the first numbers are. -/
def Hv (s : Summ) (xs : List AV) (ρ : Nat → Int) : Prop := ∀ i k x, s.args[i]? = some k → xs[i]? = some x → ∀ d, d < k.width → ρ (startOf s.args i + d) = x.ints.getD d 0

theorem hv_of (h : AVs w s.args xs) (hρ : ∀ j, j < s.inKinds.length → ρ j = (xs.flatMap AV.ints).getD j 0) : Hv s xs ρ := fun i k x hk hx d hd => by
  rw [← h.ints_at i k x hk hx d hd]
  refine hρ _ ?_
  have := start_lt s.args i k hk
  have e : s.inKinds.length = (s.args.map AK.width).sum := kinds_len s.args
  omega

theorem row_den {st n : Nat} {ws : List Int} (hl : ws.length = n) (h : ∀ d, d < n → ρ (st + d) = ws.getD d 0) : (List.range' st n).map ρ = ws := by
  refine List.ext_getElem (by simp [hl]) fun d h1 h2 => ?_
  simp only [List.getElem_map, List.getElem_range', Nat.one_mul]
  rw [h d (by omega)]
  simp [h2]

theorem uw_get {st n j : Nat} {x : S} (h : (uw st n)[j]? = some x) : j < n ∧ x = .int .u64 (.v (st + j)) := by
  simp only [uw, List.getElem?_map, Option.map_eq_some_iff] at h
  obtain ⟨k, hk, rfl⟩ := h
  rw [List.getElem?_eq_some_iff] at hk
  obtain ⟨h1, h2⟩ := hk
  simp at h1 h2
  exact ⟨h1, by rw [← h2]⟩

theorem uw_length {st n : Nat} : (uw st n).length = n := by simp [uw]

theorem ptr_inv {x : AV} {n : Nat} (h : x.ok w (.ptr n)) : ∃ b o ws, x = .ptr b o ws ∧ ws.length = n ∧ u64s ws ∧ cellsAt w b o ws := by
  cases x <;> simp only [AV.ok] at h
  exact ⟨_, _, _, rfl, h⟩

theorem slc_inv {x : AV} {n : Nat} (h : x.ok w (.slc n)) : ∃ b o ws, x = .slc b o n ws ∧ ws.length = n ∧ u64s ws ∧ cellsAt w b o ws := by
  cases x <;> simp only [AV.ok] at h
  obtain ⟨h1, h2, h3⟩ := h
  subst h2
  exact ⟨_, _, _, rfl, h1, h3⟩

/-- The row of an argument. -/
theorem argMem_row (hS : Start s al xs w) (hv : Hv s xs ρ) {t : Nat} {k : AK} {cs : List S} (hk : s.args[t]? = some k) (h : argMem s al t k = some cs) :
    ∃ b o n, placeAt xs t = some (b, o, n) ∧ cs.length = n ∧ al ≠ some t ∧ n = k.width ∧ (∀ j x, cs[j]? = some x → x.ref = none ∧ w.cell? ⟨b, o + j, none⟩ = some (x.den ρ β)) := by
  obtain ⟨x, hx, hok⟩ := hS.avs.get t k hk
  cases k with
  | sc k => simp [argMem] at h
  | cn m => simp [argMem] at h
  | agg m => simp [argMem] at h
  | slc n =>
    simp only [argMem, Option.some.injEq] at h
    subst h
    obtain ⟨b, o, ws, rfl, hl, hu, hc⟩ := slc_inv hok
    refine ⟨b, o, n, by simp [placeAt, hx, AV.place, hl], uw_length, ?_, rfl, fun j x hj => ?_⟩
    · intro e
      rcases hS.alias with ha | ⟨i, j, n', p, q, _, ha, _, _, hj, _⟩
      · rw [ha] at e; cases e
      · rw [ha] at e; cases e; rw [hj] at hk; cases hk
    · obtain ⟨h1, rfl⟩ := uw_get hj
      refine ⟨rfl, ?_⟩
      simp only [S.den, E.den]
      rw [hv t _ _ hk hx j h1]
      refine hc j _ ?_
      simp [AV.ints, List.getElem?_eq_getElem (show j < ws.length by omega)]
  | ptr n =>
    simp only [argMem] at h
    split at h
    · cases h
    rename_i hna
    simp only [Option.some.injEq] at h
    subst h
    obtain ⟨b, o, ws, rfl, hl, hu, hc⟩ := ptr_inv hok
    refine ⟨b, o, n, by simp [placeAt, hx, AV.place, hl], uw_length, hna, rfl, fun j x hj => ?_⟩
    obtain ⟨h1, rfl⟩ := uw_get hj
    refine ⟨rfl, ?_⟩
    simp only [S.den, E.den]
    have own : ρ (startOf s.args t + j) = ws.getD j 0 := hv t _ _ hk hx j h1
    by_cases hw : s.wr = some t
    · rw [if_pos hw]
      rcases hS.alias with ha | ⟨i, j', n', p, q, hwi, ha, hji, hi, hj', hp, hq, e1, e2⟩
      · rw [ha]
        simp only [Option.getD_none]
        rw [own]
        refine hc j _ ?_
        simp [List.getElem?_eq_getElem (show j < ws.length by omega)]
      · rw [hw] at hwi
        cases hwi
        rw [hk] at hi
        cases hi
        rw [ha]
        simp only [Option.getD_some]
        obtain ⟨y, hy, hyok⟩ := hS.avs.get j' _ hj'
        obtain ⟨b', o', ws', rfl, hl', hu', hc'⟩ := ptr_inv hyok
        rw [hv j' _ _ hj' hy j h1]
        simp only [placeAt, hx, hy, AV.place, Option.bind_some, Option.some.injEq] at hp hq
        subst hp hq
        simp only at e1 e2
        subst e1 e2
        refine hc' j _ ?_
        simp [AV.ints, List.getElem?_eq_getElem (show j < ws'.length by omega)]
    · rw [if_neg hw, own]
      refine hc j _ ?_
      simp [List.getElem?_eq_getElem (show j < ws.length by omega)]

/-- The value of an argument. -/
theorem argSV_den (hS : Start s al xs w) (hv : Hv s xs ρ) {t : Nat} {k : AK} {x : AV} (hk : s.args[t]? = some k) (hx : xs[t]? = some x) : (argSV s al t k).den ρ (beta0 xs) = x.val k := by
  obtain ⟨x', hx', hok⟩ := hS.avs.get t k hk
  rw [hx] at hx'
  cases hx'
  have h0 : 0 < k.width → ρ (startOf s.args t) = x.ints.getD 0 0 := fun h => hv t k x hk hx 0 h
  cases k with
  | sc k =>
    cases x <;> simp only [AV.ok] at hok
    have := h0 (by simp [AK.width])
    simp only [AV.ints, List.getD_cons_zero] at this
    cases k <;> simp [argSV, SV.den, S.den, E.den, this, AV.val, K.val]
  | cn m =>
    cases x <;> simp only [AV.ok] at hok
    simp [argSV, SV.den, S.den, E.den, AV.val, hok.1]
  | agg n =>
    cases x <;> simp only [AV.ok] at hok
    rename_i ws
    simp only [argSV, SV.den, AV.val, uw]
    have : (List.range' (startOf s.args t) n).map ρ = ws := row_den hok.1 fun d hd => by
      have := hv t _ _ hk hx d hd
      simpa [AV.ints] using this
    rw [← this]
    simp [List.map_map, S.den, E.den, Function.comp_def]
  | slc n =>
    obtain ⟨b, o, ws, rfl, hl, hu, hc⟩ := slc_inv hok
    have hp : beta0 xs t = (b, o) := by simp [beta0, placeAt, hx, AV.place]
    simp [argSV, SV.den, S.den, AV.val, hp, hl]
  | ptr n =>
    obtain ⟨b, o, ws, rfl, hl, hu, hc⟩ := ptr_inv hok
    have hp : beta0 xs t = (b, o) := by simp [beta0, placeAt, hx, AV.place]
    simp only [argSV, SV.den, S.den, AV.val]
    split
    · rename_i ha
      rcases hS.alias with hb | ⟨i, j', n', p, q, hwi, hb, hji, hi, hj', hpp, hqq, e1, e2⟩
      · rw [hb] at ha; cases ha
      · rw [hb] at ha
        cases ha
        rw [hwi]
        simp only [Option.getD_some]
        simp only [placeAt, hx, AV.place, Option.bind_some, Option.some.injEq] at hqq
        subst hqq
        have hp2 : beta0 xs i = (b, o) := by
          obtain ⟨p1, p2, p3⟩ := p
          simp only at e1 e2
          subst e1 e2
          simp [beta0, hpp]
        simp [hp2]
    · simp [hp]

theorem argSV_refs (hS : Start s al xs w) {t : Nat} {k : AK} (hk : s.args[t]? = some k) (ds : List Bool) : ∀ r ∈ (argSV s al t k).refs, (alook (initSt s al ds).mem r).isSome = true := by
  intro r hr
  rw [mem_at]
  cases k with
  | sc k => cases k <;> simp [argSV, SV.refs, S.ref] at hr
  | cn m => simp [argSV, SV.refs, S.ref] at hr
  | agg n =>
    simp only [argSV, SV.refs, uw, List.mem_filterMap, List.mem_map] at hr
    obtain ⟨_, ⟨_, _, rfl⟩, h⟩ := hr
    simp [S.ref] at h
  | slc n =>
    simp only [argSV, SV.refs, S.ref, Option.toList, List.mem_singleton] at hr
    subst hr
    simp [hk, argMem]
  | ptr n =>
    simp only [argSV, SV.refs, S.ref, Option.toList, List.mem_singleton] at hr
    subst hr
    split
    · rename_i ha
      rcases hS.alias with hb | ⟨i, j', n', p, q, hwi, hb, hji, hi, hj', hpp, hqq, e1, e2⟩
      · rw [hb] at ha; cases ha
      · rw [hb] at ha
        cases ha
        rw [hwi]
        simp only [Option.getD_some, hi, Option.bind_some, argMem]
        rw [if_neg (by rw [hb]; intro e; cases e; exact hji rfl)]
        rfl
    · rename_i ha
      simp [hk, argMem, ha]

theorem good_start {sz : Nat} (hS : Start s al xs w) (hinit : initB s sz = true) (hv : Hv s xs ρ) (dfr : List Deferred) (ds : List Bool) :
    Good ((kxOf P tbl s sz).env (alen0 xs) (beta0 xs) w dfr) (initSt s al ds).slots (initSt s al ds).mem ρ (beta0 xs)
      { tmps := (argVals s.args xs).toArray ++ Array.replicate (sz - (argVals s.args xs).toArray.size) undef, defers := dfr } w := by
  simp only [initB, Bool.and_eq_true, decide_eq_true_eq, List.all_eq_true] at hinit
  obtain ⟨⟨h1, h2⟩, h3⟩ := hinit
  obtain ⟨v1, v2⟩ := hS.avs.vals
  have rows : ∀ r cs, alook (initSt s al ds).mem r = some cs → ∃ k, s.args[r]? = some k ∧ argMem s al r k = some cs := fun r cs hr => by
    rw [mem_at] at hr
    cases hk : s.args[r]? with
    | none => rw [hk] at hr; cases hr
    | some k => rw [hk] at hr; exact ⟨k, rfl, hr⟩
  have lt : ∀ r cs, alook (initSt s al ds).mem r = some cs → r < s.args.length := fun r cs hr => by
    obtain ⟨k, hk, _⟩ := rows r cs hr
    exact (List.getElem?_eq_some_iff.mp hk).1
  have wrt : ∀ r cs, alook (initSt s al ds).mem r = some cs → (kxOf P tbl s sz).cx.writable r = true → s.wr = some r := fun r cs hr hw => by
    have := lt r cs hr
    have hw' : (decide (s.args.length ≤ r) || s.wr.toList.contains r) = true := hw
    simp only [Bool.or_eq_true, decide_eq_true_eq, List.contains_iff_mem, Option.mem_toList] at hw'
    rcases hw' with hw | hw
    · omega
    · exact hw
  refine ⟨?_, rfl, fun t sv ht => ?_, ⟨fun r cs hr j x hj => ?_, fun r cs hr hw j hj => ?_, fun r cs r' cs' hr hr' hne hw => ?_⟩, fun r cs hr x hx q hq => ?_, Keeps.refl _ _, fun r hr hn => ?_, fun r _ => rfl, fun r hr => ?_, fun r cs hn hr => ?_⟩
  · simp only [Kx.env, kxOf, Array.size_append, Array.size_replicate, List.size_toArray, v1]
    omega
  · rw [slots_at, Option.map_eq_some_iff] at ht
    obtain ⟨k, hk, rfl⟩ := ht
    obtain ⟨x, hx, _⟩ := hS.avs.get t k hk
    refine ⟨?_, argSV_refs hS hk ds⟩
    rw [argSV_den hS hv hk hx]
    have hlt : t < s.args.length := (List.getElem?_eq_some_iff.mp hk).1
    have := v2 t k x hk hx
    rw [Array.getD_eq_getD_getElem?, Array.getElem?_append_left (by simp [v1, hlt])]
    simp [this]
  · obtain ⟨k, hk, hm⟩ := rows r cs hr
    obtain ⟨b, o, n, g1, _, _, _, g4⟩ := argMem_row (β := beta0 xs) hS hv hk hm
    have := (g4 j x hj).2
    simpa [beta0, g1] using this
  · obtain ⟨k, hk, hm⟩ := rows r cs hr
    obtain ⟨b, o, n, g1, g2, _, _, _⟩ := argMem_row (β := beta0 xs) hS hv hk hm
    have hwr := wrt r cs hr hw
    have := hS.un b o n (by simpa [wrPlace, hwr, placeAt] using g1) j (by omega)
    simpa [beta0, g1] using this
  · obtain ⟨k, hk, hm⟩ := rows r cs hr
    obtain ⟨b, o, n, g1, g2, _, _, _⟩ := argMem_row (β := beta0 xs) hS hv hk hm
    obtain ⟨k', hk', hm'⟩ := rows r' cs' hr'
    obtain ⟨b', o', n', g1', g2', g3', _, _⟩ := argMem_row (β := beta0 xs) hS hv hk' hm'
    have := hS.apart r _ (wrt r cs hr hw) g1 r' _ (Ne.symm hne) g1' g3'
    simpa [beta0, g1, g1', g2, g2', apartPl] using this
  · obtain ⟨k, hk, hm⟩ := rows r cs hr
    obtain ⟨b, o, n, g1, _, _, _, g4⟩ := argMem_row (β := beta0 xs) hS hv hk hm
    obtain ⟨j, hj, rfl⟩ := List.getElem_of_mem hx
    rw [(g4 j _ (List.getElem?_eq_getElem hj)).1] at hq
    cases hq
  · obtain ⟨cs, hcs⟩ := Option.isSome_iff_exists.mp hr
    have := lt r cs hcs
    simp only [Kx.env, kxOf] at hn
    omega
  · obtain ⟨cs, hcs⟩ := Option.isSome_iff_exists.mp hr
    obtain ⟨k, hk, hm⟩ := rows r cs hcs
    obtain ⟨b, o, n, g1, g2, _, g3, g4⟩ := argMem_row (β := beta0 xs) hS hv hk hm
    have h0 := h2 k (List.mem_of_getElem? hk)
    have hc := (g4 0 _ (List.getElem?_eq_getElem (show 0 < cs.length by omega))).2
    have := cell_lt hc
    simpa [beta0, g1] using this
  · obtain ⟨k, hk, hm⟩ := rows r cs hr
    obtain ⟨b, o, n, g1, g2, _, _, _⟩ := argMem_row (β := beta0 xs) hS hv hk hm
    simp [Kx.env, alen0, g1, g2]

theorem start_stOK {sz : Nat} (hinit : initB s sz = true) (ds : List Bool) : StOK (kxOf P tbl s sz) (initSt s al ds) := by
  simp only [initB, Bool.and_eq_true, decide_eq_true_eq] at hinit
  refine ⟨Nat.le_refl _, fun r hr => ?_, fun t sv ht => ?_⟩
  · rw [mem_at, List.getElem?_eq_none (by simpa [initSt] using hr)]
    rfl
  · rw [slots_at, Option.map_eq_some_iff] at ht
    obtain ⟨k, hk, _⟩ := ht
    have := (List.getElem?_eq_some_iff.mp hk).1
    simp only [kxOf]
    omega

end
end Go.Sym
