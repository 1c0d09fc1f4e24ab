/- A slice of arrays of words as an argument: opened to its words, shut again behind a call that has turned nothing old. -/
import Derived.Test.YtdjdbacpokclpaaSymAd
import Derived.Deep.Slices
set_option linter.unusedVariables false
set_option linter.unusedSimpArgs false
namespace Go.Sym
open Go.ChangeShapes Go.WideShapes Go.ChangeAt Go.RowKit Go.Deep

section
variable {H : Type} {enc : TypeId × Value → H} {P : Program} {w : World} {base : Nat} {spare : Nat → Bool} {held : Bool} {t e wt : TypeId}

/-- An element's words. -/
theorem elem_words {n fuel : Nat} {cs : List Value} {d : DataW H} {p : List MemPlace} (he : P.underlying e = some (.array n wt)) (hw : P.underlying wt = some (.int .u64)) (hcw : P.cellsOf wt = 1) (hl : cs.length = n)
    (h : DataW.trod enc P w base spare held fuel e cs = some (d, p)) : ∃ ws : List Int, cs = ws.map (Value.int .u64) ∧ ws.length = n ∧ u64s ws ∧ d = .agg (ws.map fun x => .lit (.int .u64 x)) ∧ p = [] := by
  obtain ⟨xs, m, _, hx, _, hl', hel⟩ := DataW.trod_array he h
  have step : ∀ i, i < n → ∃ x, cs[i]? = some (.int .u64 x) ∧ xs[i]? = some (.lit (.int .u64 x), []) ∧ (K.i .u64).holds x := by
    intro i hi
    have h1 := hel i hi
    rw [hcw, Nat.mul_one, List.getElem?_eq_getElem (by omega)] at h1
    obtain ⟨x, e1, e2, e3⟩ := DataW.trod_int hw h1
    refine ⟨x, ?_, by rw [List.getElem?_eq_getElem (by omega), e2], wf_u64 e3⟩
    have : ((cs.drop i).take 1)[0]? = some (.int .u64 x) := by rw [e1]; rfl
    simpa using this
  let g : Value → Int := fun v => match v with | .int _ x => x | _ => 0
  have hcs : cs = (cs.map g).map (Value.int .u64) := by
    apply List.ext_getElem
    · simp
    · intro i h1 h2
      obtain ⟨x, hx1, _⟩ := step i (by omega)
      rw [List.getElem?_eq_getElem h1, Option.some.injEq] at hx1
      simp only [List.getElem_map, hx1, g]
  have hxs : xs = (cs.map g).map fun x => (DataW.lit (.int .u64 x), []) := by
    apply List.ext_getElem
    · simp [hl', hl]
    · intro i h1 h2
      obtain ⟨x, hx1, hx2, _⟩ := step i (by omega)
      rw [List.getElem?_eq_getElem h1, Option.some.injEq] at hx2
      rw [List.getElem?_eq_getElem (by omega), Option.some.injEq] at hx1
      simp only [List.getElem_map, hx1, hx2, g]
  simp only [Prod.mk.injEq] at hx
  obtain ⟨rfl, rfl⟩ := hx
  refine ⟨cs.map g, hcs, by simp [hl], fun x hx => ?_, ?_, ?_⟩
  · obtain ⟨v, hv, rfl⟩ := List.mem_map.mp hx
    obtain ⟨i, hi, rfl⟩ := List.getElem_of_mem hv
    obtain ⟨x, hx1, _, hx3⟩ := step i (by omega)
    rw [List.getElem?_eq_getElem hi, Option.some.injEq] at hx1
    rw [hx1]
    exact hx3
  · rw [hxs]; simp [List.map_map, Function.comp_def]
  · rw [hxs]; simp

theorem add_block (a : Addr) (i : Nat) : (a.add i).block = a.block := by unfold Addr.add; split <;> rfl

theorem cells_below {w' : World} {a : Addr} {n : Nat} (hb : Below w.heap.size w w') (ha : a.block < w.heap.size) : w'.cells? base a n = w.cells? base a n := by
  have : ∀ i, w'.cell? (a.add i) = w.cell? (a.add i) := fun i => World.cell?_of_block (by rw [add_block]; exact hb.block _ ha)
  simp only [World.cells?, this]

theorem elem_shut {w' : World} {sp : Nat → Bool} {n : Nat} {ws : List Int} (he : P.underlying e = some (.array n wt)) (hw : P.underlying wt = some (.int .u64)) (hce : P.cellsOf e = n) (hcw : P.cellsOf wt = 1) (hl : ws.length = n) (hu : u64s ws) :
    ∃ fuel, DataW.trod enc P w' base sp held fuel e (ws.map (Value.int .u64)) = some (.agg (ws.map fun x => .lit (.int .u64 x)), []) := by
  obtain ⟨f, hf⟩ := shut_words (H := H) (enc := enc) (w := w') (base := base) (spare := sp) (held := held) he hw hce hcw hl hu
  exact ⟨f, by simpa [Value.cells] using hf⟩

/-- A slice of arrays of words. -/
theorem open_vec {n : Nat} {v : Value} {d : DataW H} {p : List MemPlace} (ht : P.underlying t = some (.slice e)) (he : P.underlying e = some (.array n wt)) (hw : P.underlying wt = some (.int .u64)) (hce : P.cellsOf e = n) (hcw : P.cellsOf wt = 1) (hn : 0 < n)
    (hok : Value.okWide P w .any base t v) (h : DataW.Trod enc P w 0 (fun _ => true) held t v d p) :
    ∃ (A : Option Addr) (len cap : Nat) (a : Nat → List Int), v = .slice A len cap ∧ (∀ i, (a i).length = n) ∧ (∀ i, u64s (a i)) ∧ (0 < len → ∃ b off, A = some ⟨b, off, none⟩ ∧ ∀ i, i < len → cellsAt w b (off + i * n) (a i)) ∧
      ∀ w', Below w.heap.size w w' → ∀ sp : Nat → Bool, (∀ q ∈ p, sp q.block = true) → DataW.Trod enc P w' 0 sp held t v d p := by
  obtain ⟨A, len, cap, rfl⟩ := okWide_slice ht hok
  obtain ⟨fuel, hf⟩ := h
  have hcells : (Value.slice A len cap).cells.toList = [.slice A len cap] := rfl
  rw [hcells] at hf
  rcases open_slice ht hf with ⟨h1, h2⟩ | ⟨a, len', cap', m, fu, D, Pl, h1, hb0, hlc, hcm, hm, hx, hi⟩
  · simp only [List.cons.injEq, Value.slice.injEq, and_true] at h1
    obtain ⟨rfl, rfl, rfl⟩ := h1
    simp only [Prod.mk.injEq] at h2
    obtain ⟨rfl, rfl⟩ := h2
    refine ⟨none, 0, 0, fun _ => List.replicate n 0, rfl, fun _ => List.length_replicate, fun _ x hx => ?_, fun h => absurd h (by omega), fun w' _ sp _ => ⟨1, ?_⟩⟩
    · rw [List.eq_of_mem_replicate hx]; simp [K.holds]
    · rw [hcells]
      unfold DataW.trod
      simp [ht]
  · simp only [List.cons.injEq, Value.slice.injEq, and_true] at h1
    obtain ⟨rfl, rfl, rfl⟩ := h1
    simp only [if_true] at hm
    subst hm
    simp only [Prod.mk.injEq] at hx
    obtain ⟨rfl, rfl⟩ := hx
    obtain ⟨f, hfn⟩ := choose_lt (α := List Int) (n := m) (p := fun i ws => w.cells? 0 (a.add (i * n)) n = some (ws.map (Value.int .u64)) ∧ ws.length = n ∧ u64s ws ∧ D i = .agg (ws.map fun x => .lit (.int .u64 x)) ∧ Pl i = []) (fun i him => by
      obtain ⟨cs', c1, c2⟩ := hi i him
      rw [hce] at c1
      obtain ⟨_, cl, _⟩ := World.cells?_some c1
      obtain ⟨ws, e1, e2, e3, e4, e5⟩ := elem_words he hw hcw cl c2
      exact ⟨ws, by rw [c1, e1], e2, e3, e4, e5⟩)
    have blk : 0 < m → a.block < w.heap.size ∧ a.spot = none := fun hm0 => by
      obtain ⟨c1, c2, _⟩ := hfn 0 hm0
      obtain ⟨_, cl, cg⟩ := World.cells?_some c1
      have h0 := cg 0 hn
      rw [Nat.zero_mul] at h0
      have e0 : (a.add 0).add 0 = a := by simp [Addr.add]
      rw [e0, List.getElem?_eq_getElem (by omega)] at h0
      exact ⟨World.block_lt_of_cell? w a h0, World.cell?_spot h0⟩
    have elem : ∀ (w' : World) (sp : Nat → Bool), Below w.heap.size w w' → ∀ i, i < m → ∃ cs n', w'.cells? 0 (a.add (i * P.cellsOf e)) (P.cellsOf e) = some cs ∧ DataW.trod enc P w' 0 sp held n' e cs = some (D i, Pl i) := fun w' sp hbl i him => by
      obtain ⟨c1, c2, c3, c4, c5⟩ := hfn i him
      obtain ⟨fu', hfu⟩ := elem_shut (H := H) (enc := enc) (base := 0) (held := held) (w' := w') (sp := sp) he hw hce hcw c2 c3
      refine ⟨_, fu', ?_, by rw [c4, c5]; exact hfu⟩
      rw [hce, cells_below hbl (by rw [add_block]; exact (blk (by omega)).1)]
      exact c1
    refine ⟨some a, len, m, fun i => if i < m then f i else List.replicate n 0, rfl, fun i => ?_, fun i => ?_, fun hl => ?_, fun w' hbl sp hsp => ?_⟩
    · simp only
      split
      · rename_i h; exact (hfn i h).2.1
      · exact List.length_replicate
    · simp only
      split
      · rename_i h; exact (hfn i h).2.2.1
      · intro x hx; rw [List.eq_of_mem_replicate hx]; simp [K.holds]
    · obtain ⟨b, off, spot⟩ := a
      obtain ⟨hb1, hs1⟩ := blk (by omega)
      simp only at hs1
      subst hs1
      refine ⟨b, off, rfl, fun i hil j x hx => ?_⟩
      simp only [if_pos (show i < m by omega)] at hx
      obtain ⟨c1, c2, _⟩ := hfn i (by omega)
      obtain ⟨_, cl, cg⟩ := World.cells?_some c1
      have hj : j < n := by have := (List.getElem?_eq_some_iff.mp hx).1; omega
      have := cg j hj
      rw [List.getElem?_map, hx, add_plain, add_plain] at this
      exact this
    · rw [hce]
      cases hs : sp a.block with
      | true =>
        have := shut_slice_whole (H := H) (enc := enc) (P := P) (w := w') (base := 0) (spare := sp) (held := held) ht hb0 hlc hcm hs D Pl (elem w' sp hbl)
        rw [hce] at this
        exact this
      | false =>
        have hm0 : m = 0 := by
          rcases Nat.eq_zero_or_pos m with h | h
          · exact h
          · exfalso
            have hpos : 0 < m * P.cellsOf e := by rw [hce]; exact Nat.mul_pos h hn
            have := hsp (MemPlace.cell a.block (a.off + 0)) (List.mem_append_left _ (MemPlace.mem_row.2 ⟨0, hpos, rfl⟩))
            simp only [MemPlace.block] at this
            rw [hs] at this
            cases this
        subst hm0
        obtain rfl : len = 0 := by omega
        have := shut_slice (H := H) (enc := enc) (P := P) (w := w') (base := 0) (spare := sp) (held := held) ht hb0 hlc hcm hs D Pl (fun i hi => absurd hi (by omega))
        simpa [hce] using this

end
end Go.Sym
