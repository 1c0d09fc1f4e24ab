/- The vectors' functions of the seat Ytdjdbacpokclpaa, each by its contract: lists made and told, sums element by element; the law's walk. -/
import Derived.Test.YtdjdbacpokclpaaFnsVecAdd
import Derived.Test.YtdjdbacpokclpaaSymAe
import Derived.WalkKit
import Derived.Deep.AppendLies
import Derived.Lib.Hide
import Derived.StillTailTactics
import Derived.Deep.RegionHeld3
set_option linter.unusedVariables false
set_option linter.unusedSimpArgs false
namespace Go.Proofs.Ytdjdbacpokclpaa
open Go.RowKit

/-- The words of the first k. -/
def flat (a : Nat → List Int) (k : Nat) : List Value := (List.range k).flatMap fun i => (a i).map (Value.int .u64)
theorem flat_zero (a : Nat → List Int) : flat a 0 = [] := rfl
theorem flat_succ (a : Nat → List Int) (k : Nat) : flat a (k + 1) = flat a k ++ (a k).map (Value.int .u64) := by simp [flat, List.range_succ]
/-- The vector's elements lie in a row. -/
def VecAt (w : World) (b off n len : Nat) (a : Nat → List Int) : Prop := ∀ i, i < len → Go.Sym.cellsAt w b (off + i * n) (a i)

theorem four {l : List Int} (h : l.length = 4) : ∃ x0 x1 x2 x3, l = [x0, x1, x2, x3] := by
  match l, h with
  | [x0, x1, x2, x3], _ => exact ⟨x0, x1, x2, x3, rfl⟩

theorem info38 : (Try.prog.info? 38).map (fun i => (i.zero, i.size, i.bytes)) = some (some (.agg #[.int .u64 0, .int .u64 0, .int .u64 0, .int .u64 0]), 4, 32) := by kernel_rfl
theorem info26 : (Try.prog.info? 26).map (fun i => (i.zero, i.size, i.bytes)) = some (some (.agg #[.int .u64 0, .int .u64 0, .int .u64 0, .int .u64 0]), 4, 32) := by kernel_rfl

set_option maxHeartbeats 800000 in
set_option maxRecDepth 100000 in
theorem made_any (A : Option Addr) (len cap : Nat) (a : Nat → List Int) (w : World) (hlen : len ≤ 2147483647) (hl : ∀ i, (a i).length = 4)
    (hA : 0 < len → ∃ b off, A = some ⟨b, off, none⟩ ∧ VecAt w b off 4 len a) :
    Calls Try.prog 11 #[.slice A len cap] w fun e w' => ∃ v, e = .returned v ∧ w'.ownsRow w.heap.size 38 4 v len (flat a len) ∧ Below w.heap.size w w' := by
  obtain ⟨i0, hi, hz0, hz1, hz2⟩ := info_parts info38
  go_enter Try.func11, Try.ntmps11
  go_wp2
  go_loopw [3, 8] (fun v i wr => ∃ k : Nat, k ≤ len ∧ i = .int .i64 k ∧ wr.ownsRow w.heap.size 38 4 v k (flat a k) ∧ Below w.heap.size w wr)
    (fun _ i _ => len - (intOf i).toNat)
  case atStart => exact ⟨0, Nat.zero_le _, rfl, World.ownsRow_nil _ _ _ _, Below.refl _ _⟩
  case round =>
    obtain ⟨k, hk, rfl, hown, hnx⟩ := hrel
    by_cases hlt : k < len
    · obtain ⟨b, off, rfl, hc⟩ := hA (by omega)
      obtain ⟨x0, x1, x2, x3, hx⟩ := four (hl k)
      have hck := hc k hlt
      rw [hx] at hck
      have c0 := (hnx.cell (Go.Sym.cell_lt (hck 0 x0 rfl))).trans (hck 0 x0 rfl)
      have c1 := (hnx.cell (Go.Sym.cell_lt (hck 1 x1 rfl))).trans (hck 1 x1 rfl)
      have c2 := (hnx.cell (Go.Sym.cell_lt (hck 2 x2 rfl))).trans (hck 2 x2 rfl)
      have c3 := (hnx.cell (Go.Sym.cell_lt (hck 3 x3 rfl))).trans (hck 3 x3 rfl)
      simp only [Nat.add_zero] at c0
      have ht := flat_succ a k
      rw [hx] at ht
      have HT := Lib.hid ht
      clear hc hA ht hx hck
      go_wp2_with (at_builtin; refine wpList_append_own _ rfl _ _ 33 rfl w.heap.size 38 i0 _ 4 32 Try.underlying33 hi hz0 hz1 hz2 rfl (by decide) _ _ _ rfl ((hown.alloc _).alloc _) ⟨wr.heap.size + 1, 0, none⟩ 1 1 [.int .u64 x0, .int .u64 x1, .int .u64 x2, .int .u64 x3] rfl rfl (World.news_of_block (cs := #[.int .u64 x0, .int .u64 x1, .int .u64 x2, .int .u64 x3]) (t := 38) (fr := (0, 0)) (heap_alloc2_new wr _ _)) ?c2 ?c3 ?c4 ?c5 ?_)
      case c2 => simp [Value.oneCell']
      case c3 => unfold maxLen; omega
      case c4 => omega
      case c5 => have := hnx.size; simp; omega
      intro v' w1 hown' hgrow _
      go_wp2
      go_roundw
      case rel => exact ⟨k + 1, by omega, by go_num, by rw [HT.out]; exact hown', ((hnx.alloc hnx.size _).alloc (by have := hnx.size; simp; omega) _).grown hgrow (by have := hnx.size; simp; omega) (fun j hj => (hown.lt j hj).1)⟩
      case measure => simp [intOf]; omega
    · go_wp2
      go_ret
      have hkl : k = len := by omega
      subst hkl
      exact ⟨_, rfl, hown, hnx⟩

set_option maxHeartbeats 800000 in
set_option maxRecDepth 100000 in
theorem told_any (A : Option Addr) (len cap : Nat) (a : Nat → List Int) (w : World) (hlen : len ≤ 2147483647) (hl : ∀ i, (a i).length = 4)
    (hA : 0 < len → ∃ b off, A = some ⟨b, off, none⟩ ∧ VecAt w b off 4 len a) :
    Calls Try.prog 12 #[.slice A len cap] w fun e w' => ∃ v, e = .returned v ∧ w'.ownsRow w.heap.size 26 4 v len (flat a len) ∧ Below w.heap.size w w' := by
  obtain ⟨i0, hi, hz0, hz1, hz2⟩ := info_parts info26
  go_enter Try.func12, Try.ntmps12
  go_wp2
  go_loopw [3, 8] (fun v i wr => ∃ k : Nat, k ≤ len ∧ i = .int .i64 k ∧ wr.ownsRow w.heap.size 26 4 v k (flat a k) ∧ Below w.heap.size w wr)
    (fun _ i _ => len - (intOf i).toNat)
  case atStart => exact ⟨0, Nat.zero_le _, rfl, World.ownsRow_nil _ _ _ _, Below.refl _ _⟩
  case round =>
    obtain ⟨k, hk, rfl, hown, hnx⟩ := hrel
    by_cases hlt : k < len
    · obtain ⟨b, off, rfl, hc⟩ := hA (by omega)
      obtain ⟨x0, x1, x2, x3, hx⟩ := four (hl k)
      have hck := hc k hlt
      rw [hx] at hck
      have c0 := (hnx.cell (Go.Sym.cell_lt (hck 0 x0 rfl))).trans (hck 0 x0 rfl)
      have c1 := (hnx.cell (Go.Sym.cell_lt (hck 1 x1 rfl))).trans (hck 1 x1 rfl)
      have c2 := (hnx.cell (Go.Sym.cell_lt (hck 2 x2 rfl))).trans (hck 2 x2 rfl)
      have c3 := (hnx.cell (Go.Sym.cell_lt (hck 3 x3 rfl))).trans (hck 3 x3 rfl)
      simp only [Nat.add_zero] at c0
      have ht := flat_succ a k
      rw [hx] at ht
      have HT := Lib.hid ht
      clear hc hA ht hx hck
      go_wp2_with (at_builtin; refine wpList_append_own _ rfl _ _ 22 rfl w.heap.size 26 i0 _ 4 32 Try.underlying22 hi hz0 hz1 hz2 rfl (by decide) _ _ _ rfl ((hown.alloc _).alloc _) ⟨wr.heap.size + 1, 0, none⟩ 1 1 [.int .u64 x0, .int .u64 x1, .int .u64 x2, .int .u64 x3] rfl rfl (World.news_of_block (cs := #[.int .u64 x0, .int .u64 x1, .int .u64 x2, .int .u64 x3]) (t := 26) (fr := (0, 0)) (heap_alloc2_new wr _ _)) ?c2 ?c3 ?c4 ?c5 ?_)
      case c2 => simp [Value.oneCell']
      case c3 => unfold maxLen; omega
      case c4 => omega
      case c5 => have := hnx.size; simp; omega
      intro v' w1 hown' hgrow _
      go_wp2
      go_roundw
      case rel => exact ⟨k + 1, by omega, by go_num, by rw [HT.out]; exact hown', ((hnx.alloc hnx.size _).alloc (by have := hnx.size; simp; omega) _).grown hgrow (by have := hnx.size; simp; omega) (fun j hj => (hown.lt j hj).1)⟩
      case measure => simp [intOf]; omega
    · go_wp2
      go_ret
      have hkl : k = len := by omega
      subst hkl
      exact ⟨_, rfl, hown, hnx⟩

def sumE (x y : List Int) : List Int := Go.Sym.wds 4 (Go.Sym.eAdd 4 q (Go.Sym.val x) (Go.Sym.val y))

theorem sum_args {x y z : List Int} (lz : z.length = 4) (lx : x.length = 4) : Go.Sym.eaddF 4 q (z ++ (x ++ y)) = sumE x y := by
  have e1 : (z ++ (x ++ y)).drop 4 = x ++ y := by rw [← lz]; exact List.drop_left
  have e2 : (z ++ (x ++ y)).drop (2 * 4) = y := by
    rw [show 2 * 4 = 4 + 4 by rfl, ← List.drop_drop, e1, ← lx]
    exact List.drop_left
  have e3 : (x ++ y).take 4 = x := by rw [← lx]; exact List.take_left
  rw [Go.Sym.eaddF, e1, e2, e3]
  rfl

theorem keeps_cells {w w' : World} {g b o : Nat} {ws : List Int} (h : Go.Sym.Keeps w w' (fun bl _ => bl = g)) (hb : b ≠ g) (hc : Go.Sym.cellsAt w b o ws) : Go.Sym.cellsAt w' b o ws := fun j x hx => by
  have := hc j x hx
  exact (h.cell (Go.Sym.cell_lt this) hb).trans this

theorem keeps_far {w w' : World} {g o lo hi : Nat} {ws : List Int} (h : Go.Sym.Keeps w w' (fun bl o => bl = g ∧ lo ≤ o ∧ o < hi)) (hc : Go.Sym.cellsAt w g o ws) (hd : o + ws.length ≤ lo ∨ hi ≤ o) : Go.Sym.cellsAt w' g o ws := fun j x hx => by
  have := hc j x hx
  have hj : j < ws.length := (List.getElem?_eq_some_iff.mp hx).1
  exact (h.cell (Go.Sym.cell_lt this) (by omega)).trans this

theorem elem_add {bz oz bx ox b_y oy : Nat} {x y : List Int} (w : World) (lx : x.length = 4) (ly : y.length = 4) (ux : Go.Sym.u64s x) (uy : Go.Sym.u64s y) (hz : Go.Sym.cellsAt w bz oz [0, 0, 0, 0]) (hx : Go.Sym.cellsAt w bx ox x) (hy : Go.Sym.cellsAt w b_y oy y)
    (nx : bz ≠ bx) (ny : bz ≠ b_y) (hun : Go.Sym.unfrozenAt w bz oz 4) :
    Calls Try.prog 14 #[.pointer (some ⟨bz, oz, none⟩), .pointer (some ⟨bx, ox, none⟩), .pointer (some ⟨b_y, oy, none⟩)] w fun e w' =>
      e = .returned (.pointer (some ⟨bz, oz, none⟩)) ∧ Go.Sym.cellsAt w' bz oz (sumE x y) ∧ Go.Sym.Keeps w w' (fun b o => b = bz ∧ oz ≤ o ∧ o < oz + 4) :=
  Go.Sym.add_calls Try.func14 (by kernel_rfl) rfl ok_add rfl lx ly (by intro v hv; simp at hv; subst hv; simp [Go.Sym.K.holds]) ux uy hz hx hy nx ny hun (sum_args rfl lx) (Go.Sym.wds_length _ _)

set_option maxHeartbeats 800000 in
set_option maxRecDepth 100000 in
theorem addvec_any (R A B : Option Addr) (len capR capA capB g : Nat) (a b : Nat → List Int) (w : World) (hlen : len ≤ 2147483647) (la : ∀ i, (a i).length = 4) (lb : ∀ i, (b i).length = 4) (ua : ∀ i, Go.Sym.u64s (a i)) (ub : ∀ i, Go.Sym.u64s (b i))
    (hR : 0 < len → R = some ⟨g, 0, none⟩ ∧ VecAt w g 0 4 len (fun _ => [0, 0, 0, 0]) ∧ ∀ j, w.frozen? ⟨g, j, none⟩ = false)
    (hA : 0 < len → ∃ ba off, A = some ⟨ba, off, none⟩ ∧ ba ≠ g ∧ VecAt w ba off 4 len a)
    (hB : 0 < len → ∃ bb off, B = some ⟨bb, off, none⟩ ∧ bb ≠ g ∧ VecAt w bb off 4 len b) :
    Calls Try.prog 15 #[.slice R len capR, .slice A len capA, .slice B len capB] w fun e w' => e = .returned (.tuple #[]) ∧ VecAt w' g 0 4 len (fun i => sumE (a i) (b i)) ∧ Go.Sym.Keeps w w' (fun bl _ => bl = g) := by
  go_enter Try.func15, Try.ntmps15
  go_wp2
  go_loopw [22] (fun i wr => ∃ k : Nat, k ≤ len ∧ i = .int .i64 k ∧ (∀ i, i < k → Go.Sym.cellsAt wr g (i * 4) (sumE (a i) (b i))) ∧ (∀ i, k ≤ i → i < len → Go.Sym.cellsAt wr g (i * 4) [0, 0, 0, 0]) ∧ Go.Sym.Keeps w wr (fun bl _ => bl = g))
    (fun i _ => len - (intOf i).toNat)
  case atStart => exact ⟨0, Nat.zero_le _, rfl, fun i hi => absurd hi (by omega), fun i _ hi => by have := (hR (by omega)).2.1 i hi; rw [Nat.zero_add] at this; exact this, Go.Sym.Keeps.refl _ _⟩
  case round =>
    obtain ⟨k, hk, rfl, hs, hz, hkp⟩ := hrel
    by_cases hlt : k < len
    · obtain ⟨rfl, hR2, hR3⟩ := hR (by omega)
      obtain ⟨ba, offa, rfl, na, hA2⟩ := hA (by omega)
      obtain ⟨bb, offb, rfl, nb, hB2⟩ := hB (by omega)
      have h0 : (0 : Int) ≤ (k : Int) := by omega
      have h1 : (k : Int) < (len : Int) := by omega
      have hza := hz k (Nat.le_refl _) hlt
      have hxa := keeps_cells hkp na (hA2 k hlt)
      have hxb := keeps_cells hkp nb (hB2 k hlt)
      have hgl : g < w.heap.size := Go.Sym.cell_lt (hR2 k hlt 0 0 rfl)
      have hun : Go.Sym.unfrozenAt wr g (k * 4) 4 := fun j _ => (hkp.frozen (k * 4 + j) hgl).trans (hR3 _)
      clear hR hA hB
      go_wp2
      go_still_tail 9, (by kernel_rfl)
      change wpList _ _ _ _ _ wr.drew
      have hkd : Go.Sym.Keeps w wr.drew (fun bl _ => bl = g) := hkp.trans (Go.Sym.Keeps.drew wr (fun _ _ => False)) (fun _ _ _ h => h) (fun _ _ _ h => h.elim)
      have hsd : ∀ i, i < k → Go.Sym.cellsAt wr.drew g (i * 4) (sumE (a i) (b i)) := hs
      have hzd : ∀ i, k ≤ i → i < len → Go.Sym.cellsAt wr.drew g (i * 4) [0, 0, 0, 0] := hz
      have hc := elem_add wr.drew (la k) (lb k) (ua k) (ub k) hza hxa hxb (Ne.symm na) (Ne.symm nb) hun
      generalize wr.drew = w2 at *
      clear hza hxa hxb hun hs hz hkp
      go_wp2_with (go_at_call 14; refine hc.mono ?_; rintro e w3 ⟨rfl, hs', hk'⟩)
      go_wp2
      go_roundw
      case rel =>
        refine ⟨k + 1, by omega, by go_num, fun i hi => ?_, fun i hi hi2 => ?_, hkd.trans hk' (fun _ _ _ h => h) (fun _ _ _ h => h.1)⟩
        · rcases Nat.lt_or_ge i k with h | h
          · exact keeps_far hk' (hsd i h) (.inl (by rw [show (sumE (a i) (b i)).length = 4 from Go.Sym.wds_length _ _]; omega))
          · obtain rfl : i = k := by omega
            exact hs'
        · exact keeps_far hk' (hzd i (by omega) hi2) (.inr (by omega))
      case measure => simp [intOf]; omega
    · go_wp2
      have hkl : k = len := by omega
      subst hkl
      go_end0
      exact ⟨rfl, fun i hi => by rw [Nat.zero_add]; exact hs i hi, hkp⟩

theorem flat_get {a : Nat → List Int} {n : Nat} (la : ∀ i, (a i).length = n) : ∀ (k i j : Nat) (x : Int), i < k → (a i)[j]? = some x → (flat a k)[i * n + j]? = some (.int .u64 x) := by
  intro k
  induction k with
  | zero => intro i j x h; omega
  | succ k ih =>
    intro i j x hi hx
    have hj : j < n := by have := (List.getElem?_eq_some_iff.mp hx).1; rw [la] at this; exact this
    have hl : (flat a k).length = k * n := by
      clear ih hi hx
      induction k with
      | zero => simp [flat]
      | succ k ih => rw [flat_succ, List.length_append, ih, List.length_map, la, Nat.succ_mul]
    rw [flat_succ]
    rcases Nat.lt_or_ge i k with h | h
    · have : i * n + j < k * n := by
        have := Nat.mul_le_mul_right n (show i + 1 ≤ k by omega)
        rw [Nat.succ_mul] at this
        omega
      rw [List.getElem?_append_left (by omega)]
      exact ih i j x h hx
    · obtain rfl : i = k := by omega
      rw [List.getElem?_append_right (by omega), hl, show i * n + j - i * n = j by omega, List.getElem?_map, hx]
      rfl

theorem own_vec {w : World} {base n len : Nat} {e : TypeId} {v : Value} {a : Nat → List Int} (la : ∀ i, (a i).length = n) (h : w.ownsRow base e n v len (flat a len)) :
    ∃ A c, v = .slice A len c ∧ (0 < len → ∃ g, A = some ⟨g, 0, none⟩ ∧ base ≤ g ∧ VecAt w g 0 n len a) := by
  rcases h.2 with ⟨rfl, rfl⟩ | ⟨g, cap, cur, rfl, hb, hg, h1, h2, h3, h4⟩
  · exact ⟨none, 0, rfl, fun h => absurd h (by omega)⟩
  · refine ⟨_, _, rfl, fun _ => ⟨g, rfl, hb, fun i hi j x hx => ?_⟩⟩
    have key := flat_get la len i j x hi hx
    rw [← h4, List.getElem?_take] at key
    rw [cell_of_row w g _ cur e (0, 0) hg]
    split at key
    · rw [← key, Nat.zero_add]; simp
    · cases key

theorem vecAt_below {w w' : World} {b o n len : Nat} {a : Nat → List Int} (h : VecAt w b o n len a) (hb : Below w.heap.size w w') : VecAt w' b o n len a := fun i hi j x hx => by
  have := h i hi j x hx
  exact (hb.cell (Go.Sym.cell_lt this)).trans this

set_option maxHeartbeats 800000 in
set_option maxRecDepth 100000 in
theorem vadd_any (R A B : Option Addr) (len capR capA capB g gz : Nat) (a b : Nat → List Int) (w : World) (hlen : len ≤ 2147483647) (la : ∀ i, (a i).length = 4) (lb : ∀ i, (b i).length = 4) (ua : ∀ i, Go.Sym.u64s (a i)) (ub : ∀ i, Go.Sym.u64s (b i))
    (hZ : w.cell? ⟨gz, 0, none⟩ = some (.slice R len capR))
    (hR : 0 < len → R = some ⟨g, 0, none⟩ ∧ VecAt w g 0 4 len (fun _ => [0, 0, 0, 0]) ∧ ∀ j, w.frozen? ⟨g, j, none⟩ = false)
    (hA : 0 < len → ∃ ba off, A = some ⟨ba, off, none⟩ ∧ ba ≠ g ∧ VecAt w ba off 4 len a)
    (hB : 0 < len → ∃ bb off, B = some ⟨bb, off, none⟩ ∧ bb ≠ g ∧ VecAt w bb off 4 len b) :
    Calls Try.prog 10 #[.pointer (some ⟨gz, 0, none⟩), .slice A len capA, .slice B len capB] w fun e w' => e = .returned (.tuple #[]) ∧ VecAt w' g 0 4 len (fun i => sumE (a i) (b i)) ∧ Go.Sym.Keeps w w' (fun bl _ => bl = g) := by
  have hc := addvec_any R A B len capR capA capB g a b w hlen la lb ua ub hR hA hB
  clear hR hA hB
  go_enter Try.func10, Try.ntmps10
  go_wp2_with (go_at_call 15; refine hc.mono ?_; rintro e w' ⟨rfl, h1, h2⟩)
  go_end0
  exact ⟨rfl, h1, h2⟩

theorem own_base {w : World} {base base' n len : Nat} {e : TypeId} {v : Value} {xs : List Value} (h : w.ownsRow base e n v len xs) (hb : base' ≤ base) : w.ownsRow base' e n v len xs := by
  refine ⟨h.1, ?_⟩
  rcases h.2 with h2 | ⟨g, cap, cur, h1, h2, h3⟩
  · exact .inl h2
  · exact .inr ⟨g, cap, cur, h1, by omega, h3⟩

theorem keeps_below {w w' : World} {g H : Nat} (h : Go.Sym.Keeps w w' (fun bl _ => bl = g)) (hg : H ≤ g) (hH : H ≤ w.heap.size) : Below H w w' :=
  ⟨h.os, h.tape, h.output, h.size, fun b hb => by
    rcases h.blk b (by omega) with e | ⟨c, c', t, fr, h1, h2, hs, hc⟩
    · exact e
    · rw [h1, h2]
      congr 2
      exact Array.ext (by omega) fun i i1 i2 => by
        have := hc i (by omega)
        rw [Array.getElem?_eq_getElem i1, Array.getElem?_eq_getElem i2] at this
        simpa using this⟩

theorem made_zero {k : Nat} {z : Array Value} {n : Nat} (hz : z.size = n) (hn : 0 < n) (h0 : ∀ i, i < n → z[i]! = .int .u64 0) (j : Nat) (hj : j < k) : (madeCells z k)[j]? = some (.int .u64 0) := by
  have : j % z.size < n := by rw [hz]; exact Nat.mod_lt _ hn
  simp [madeCells, hj, h0 _ this]

set_option maxHeartbeats 800000 in
set_option maxRecDepth 100000 in
theorem vecadd_any (A B : Option Addr) (len capA capB : Nat) (a b : Nat → List Int) (w : World) (hlen : len ≤ 2147483647) (la : ∀ i, (a i).length = 4) (lb : ∀ i, (b i).length = 4) (ua : ∀ i, Go.Sym.u64s (a i)) (ub : ∀ i, Go.Sym.u64s (b i))
    (hA : 0 < len → ∃ ba off, A = some ⟨ba, off, none⟩ ∧ VecAt w ba off 4 len a)
    (hB : 0 < len → ∃ bb off, B = some ⟨bb, off, none⟩ ∧ VecAt w bb off 4 len b) :
    Calls Try.prog 5 #[.slice A len capA, .slice B len capB] w fun e w' => ∃ v, e = .returned v ∧ w'.ownsRow w.heap.size 26 4 v len (flat (fun i => sumE (a i) (b i)) len) ∧ Below w.heap.size w w' := by
  obtain ⟨i1, hi1, hz0, hz1, hz2⟩ := info_parts info38
  have hmk := run_make (P := Try.prog) w 34 38 i1 _ Try.underlying34 hi1 hz0 .i64 .i64 (len : Int) (len : Int) (by omega) (by omega) (by rw [hz2]; omega) (by omega)
  rw [hz1, Int.toNat_natCast] at hmk
  obtain ⟨C, hC⟩ : ∃ C, C = madeCells (Value.agg #[.int .u64 0, .int .u64 0, .int .u64 0, .int .u64 0]).cells (len * 4) := ⟨_, rfl⟩
  rw [← hC] at hmk
  have hC0 : ∀ j, j < len * 4 → C[j]? = some (.int .u64 0) := fun j hj => by
    rw [hC]
    exact made_zero (n := 4) rfl (by decide) (by intro i hi; match i, hi with | 0, _ => rfl | 1, _ => rfl | 2, _ => rfl | 3, _ => rfl) j hj
  clear hC hz0 hz1 hz2 hi1
  have HC := Lib.hid hC0
  clear hC0
  go_enter Try.func5, Try.ntmps5
  go_wp2_with fail
  obtain ⟨W1, hW1⟩ : ∃ W1, W1 = (w.alloc (.cells C 38)).alloc (.cells #[.slice (some ⟨w.heap.size, 0, none⟩) len len] 34) := ⟨_, rfl⟩
  rw [← hW1]
  have b1 : Below w.heap.size w W1 := by rw [hW1]; exact ((Below.refl _ _).alloc (Nat.le_refl _) _).alloc (by simp) _
  have z1 : W1.cell? ⟨w.heap.size + 1, 0, none⟩ = some (.slice (some ⟨w.heap.size, 0, none⟩) len len) := by
    rw [hW1, World.cell?_alloc_at _ _ _ _ (by simp)]; rfl
  have s1 : W1.heap.size = w.heap.size + 2 := by rw [hW1]; simp
  have g1 : W1.heap[w.heap.size]? = some (.cells C 38 (0, 0)) := by rw [hW1]; exact heap_alloc2_old w _ _
  clear hW1 hmk
  refine (made_any A len capA a W1 hlen la fun h => ?_).mono ?_
  · obtain ⟨ba, off, e1, e2⟩ := hA h
    exact ⟨ba, off, e1, vecAt_below e2 b1⟩
  rintro e w1 ⟨v1, rfl, hown1, b2⟩
  obtain ⟨A1, c1, rfl, hA1⟩ := own_vec la hown1
  have z2 := (b2.cell (p := ⟨w.heap.size + 1, 0, none⟩) (by show w.heap.size + 1 < _; omega)).trans z1
  have g2 := (b2.block w.heap.size (by omega)).trans g1
  have s2 := b2.size
  have b12 : Below w.heap.size w w1 := b1.trans (b2.mono (by omega))
  clear z1 g1 hown1
  go_wp2_with fail
  refine (made_any B len capB b w1 hlen lb fun h => ?_).mono ?_
  · obtain ⟨bb, off, e1, e2⟩ := hB h
    exact ⟨bb, off, e1, vecAt_below e2 b12⟩
  rintro e w2 ⟨v2, rfl, hown2, b3⟩
  obtain ⟨B1, c2, rfl, hB1⟩ := own_vec lb hown2
  have z3 := (b3.cell (p := ⟨w.heap.size + 1, 0, none⟩) (by show w.heap.size + 1 < _; omega)).trans z2
  have g3 := (b3.block w.heap.size (by omega)).trans g2
  have s3 := b3.size
  have b13 : Below w.heap.size w w2 := b12.trans (b3.mono (by omega))
  clear z2 g2 hown2
  go_wp2_with fail
  refine (vadd_any (some ⟨w.heap.size, 0, none⟩) A1 B1 len len c1 c2 w.heap.size (w.heap.size + 1) a b w2 hlen la lb ua ub z3 (fun h => ⟨rfl, fun i hi j x hx => ?_, fun j => frozen_of_row w2 _ j C 38 g3⟩) (fun h => ?_) (fun h => ?_)).mono ?_
  · rw [cell_of_row w2 _ _ C 38 (0, 0) g3]
    have hj : j < 4 := (List.getElem?_eq_some_iff.mp hx).1
    have hx0 : x = 0 := by match j, hx with | 0, h => simpa using h.symm | 1, h => simpa using h.symm | 2, h => simpa using h.symm | 3, h => simpa using h.symm
    rw [HC.out _ (by omega), hx0]
  · obtain ⟨g, e1, e2, e3⟩ := hA1 h
    exact ⟨g, 0, e1, by omega, vecAt_below e3 b3⟩
  · obtain ⟨g, e1, e2, e3⟩ := hB1 h
    exact ⟨g, 0, e1, by omega, e3⟩
  rintro e w3 ⟨rfl, hs, hk⟩
  have z4 : w3.cell? ⟨w.heap.size + 1, 0, none⟩ = some (.slice (some ⟨w.heap.size, 0, none⟩) len len) := (hk.cell (Go.Sym.cell_lt z3) (by show ¬ (w.heap.size + 1 = w.heap.size); omega)).trans z3
  have b14 : Below w.heap.size w w3 := b13.trans (keeps_below hk (Nat.le_refl _) (by omega))
  have s4 := hk.size
  clear z3 g3
  go_wp2_with fail
  refine (told_any (some ⟨w.heap.size, 0, none⟩) len len (fun i => sumE (a i) (b i)) w3 hlen (fun i => Go.Sym.wds_length _ _) fun h => ⟨_, _, rfl, hs⟩).mono ?_
  rintro e w4 ⟨v, rfl, hown, b5⟩
  go_wp2_with fail
  go_ret
  exact ⟨_, rfl, own_base hown (by omega), b14.trans (b5.mono (by omega))⟩
theorem val_q : Go.Sym.val (Go.Sym.wds 4 q) = q := by kernel_rfl

theorem prime_any (w : World) : Calls Try.prog 9 #[] w fun e w' => ∃ g, e = .returned (.slice (some ⟨g, 0, none⟩) 4 4) ∧ w.heap.size ≤ g ∧ g < w'.heap.size ∧ Go.Sym.cellsAt w' g 0 (Go.Sym.wds 4 q) ∧ Below w.heap.size w w' :=
  Go.Sym.words_calls Try.func9 (by kernel_rfl) rfl ok_prime rfl (Go.Sym.wds_length _ _)

theorem less_any {b o g : Nat} {x : List Int} {r : Bool} (w : World) (lx : x.length = 4) (ux : Go.Sym.u64s x) (hr : decide (Go.Sym.val x < q) = r) (hx : Go.Sym.cellsAt w b o x) (hg : Go.Sym.cellsAt w g 0 (Go.Sym.wds 4 q)) :
    Calls Try.prog 8 #[.slice (some ⟨b, o, none⟩) 4 4, .slice (some ⟨g, 0, none⟩) 4 4] w fun e w' => e = .returned (.bool r) ∧ Below w.heap.size w w' := by
  have := Go.Sym.less_calls Try.func8 (by kernel_rfl) rfl ok_less lx (Go.Sym.wds_length _ _) ux (Go.Sym.wds_u64s _ _) hx hg
  rw [val_q, hr] at this
  exact this

def allB (a : Nat → List Int) (len : Nat) : Bool := (List.range len).all fun i => decide (Go.Sym.val (a i) < q)
theorem allB_true {a : Nat → List Int} {len : Nat} (h : ∀ i, i < len → Go.Sym.val (a i) < q) : allB a len = true := by
  simp only [allB, List.all_eq_true, List.mem_range, decide_eq_true_eq]
  exact h
theorem allB_of {a : Nat → List Int} {len : Nat} (h : allB a len = true) : ∀ i, i < len → Go.Sym.val (a i) < q := by
  simpa only [allB, List.all_eq_true, List.mem_range, decide_eq_true_eq] using h
theorem allB_false {a : Nat → List Int} {len k : Nat} (hk : k < len) (h : ¬ Go.Sym.val (a k) < q) : allB a len = false := by
  cases hh : allB a len
  · rfl
  · exact absurd (allB_of hh k hk) h

theorem ret_bool {a b : Bool} (h : a = b) : Ending.returned (.bool a) = .returned (.bool b) := by rw [h]

theorem below_on {w w1 w2 : World} (h : Below w.heap.size w w1) (k : Below w1.heap.size w1 w2) : Below w.heap.size w w2 := h.trans (k.mono h.size)

theorem Below.cell_of {w w' : World} {b o : Nat} {v : Value} (hb : Below w.heap.size w w') (h : w.cell? ⟨b, o, none⟩ = some v) : w'.cell? ⟨b, o, none⟩ = some v := (hb.cell (Go.Sym.cell_lt h)).trans h

set_option maxHeartbeats 1600000 in
set_option maxRecDepth 100000 in
theorem all_any (A : Option Addr) (len cap : Nat) (a : Nat → List Int) (w : World) (hlen : len ≤ 2147483647) (la : ∀ i, (a i).length = 4) (ua : ∀ i, Go.Sym.u64s (a i))
    (hA : 0 < len → ∃ b off, A = some ⟨b, off, none⟩ ∧ VecAt w b off 4 len a) :
    Calls Try.prog 4 #[.slice A len cap] w fun e w' => e = .returned (.bool (allB a len)) ∧ Below w.heap.size w w' := by
  go_enter Try.func4, Try.ntmps4
  go_wp2
  go_loopw [3] (fun i wr => ∃ k : Nat, k ≤ len ∧ i = .int .i64 k ∧ (∀ i, i < k → Go.Sym.val (a i) < q) ∧ Below w.heap.size w wr)
    (fun i _ => len - (intOf i).toNat)
  case atStart => exact ⟨0, Nat.zero_le _, rfl, fun i hi => absurd hi (by omega), Below.refl _ _⟩
  case round =>
    obtain ⟨k, hk, rfl, hs, hnx⟩ := hrel
    by_cases hlt : k < len
    · obtain ⟨b, off, rfl, hc⟩ := hA (by omega)
      have hck := hc k hlt
      have hbl : b < w.heap.size := by
        have h4 := la k
        match hh : a k, h4 with
        | x :: _, _ => rw [hh] at hck; exact Go.Sym.cell_lt (hck 0 x rfl)
      have h0 : (0 : Int) ≤ (k : Int) := by omega
      have h1 : (k : Int) < (len : Int) := by omega
      have keepc : ∀ w', Below w.heap.size w w' → Go.Sym.cellsAt w' b (off + k * 4) (a k) := fun w' hb j x hx => (hb.cell (p := ⟨b, off + k * 4 + j, none⟩) hbl).trans (hck j x hx)
      have KC := Lib.hid keepc
      have HS := Lib.hid hs
      clear hA hc hck keepc hs
      by_cases hq : Go.Sym.val (a k) < q
      · have hr : Hid (decide (Go.Sym.val (a k) < q) = true) := Lib.hid (decide_eq_true hq)
        go_wp2
        go_region_held3 (fun w' => Below w.heap.size w w') (first | assumption | exact Below.drew hnx | exact below_on (by assumption) hb)
          (first | (go_at_call 9; refine (prime_any _).mono ?_; rintro e w' ⟨g, rfl, hg1, hg2, hg3, hb⟩) | (go_at_call 8; refine (less_any _ (la k) (ua k) hr.out (KC.out _ (by assumption)) (by assumption)).mono ?_; rintro e w' ⟨rfl, hb⟩))
        all_goals
          go_wp2
          go_roundw
          case rel => exact ⟨k + 1, by omega, by go_num, fun i hi => by
            rcases Nat.lt_or_ge i k with h | h
            · exact HS.out i h
            · obtain rfl : i = k := by omega
              exact hq, by assumption⟩
          case measure => simp [intOf]; omega
      · have hr : Hid (decide (Go.Sym.val (a k) < q) = false) := Lib.hid (decide_eq_false hq)
        go_wp2
        go_region_held3 (fun w' => Below w.heap.size w w') (first | assumption | exact Below.drew hnx | exact below_on (by assumption) hb)
          (first | (go_at_call 9; refine (prime_any _).mono ?_; rintro e w' ⟨g, rfl, hg1, hg2, hg3, hb⟩) | (go_at_call 8; refine (less_any _ (la k) (ua k) hr.out (KC.out _ (by assumption)) (by assumption)).mono ?_; rintro e w' ⟨rfl, hb⟩))
        all_goals
          go_wp2
          go_ret
          exact ⟨ret_bool (allB_false hlt (by omega)).symm, by assumption⟩
    · go_wp2
      have hkl : k = len := by omega
      subst hkl
      go_ret
      exact ⟨ret_bool (allB_true hs).symm, hnx⟩

theorem one_any (w : World) : Calls Try.prog 6 #[] w fun e w' => e = .returned (.agg #[.int .u64 12436184717236109307, .int .u64 3962172157175319849, .int .u64 7381016538464732718, .int .u64 1011752739694698287]) ∧ Below w.heap.size w w' :=
  Go.Sym.agg0_calls (z := [12436184717236109307, 3962172157175319849, 7381016538464732718, 1011752739694698287]) Try.func6 (by kernel_rfl) rfl ok_iOne (by kernel_rfl) rfl

theorem add_any {x y : List Int} (w : World) (lx : x.length = 4) (ly : y.length = 4) (ux : Go.Sym.u64s x) (uy : Go.Sym.u64s y) :
    Calls Try.prog 7 #[.agg (x.map (Value.int .u64)).toArray, .agg (y.map (Value.int .u64)).toArray] w fun e w' => e = .returned (.agg ((sumE x y).map (Value.int .u64)).toArray) ∧ Below w.heap.size w w' :=
  Go.Sym.agg2_calls Try.func7 (by kernel_rfl) rfl ok_iAdd lx ly ux uy (by
    have e1 : (x ++ y).take 4 = x := by rw [← lx]; exact List.take_left
    have e2 : (x ++ y).drop 4 = y := by rw [← lx]; exact List.drop_left
    show Go.Sym.aaddF 4 q (x ++ y) = _
    rw [Go.Sym.aaddF, e1, e2]; rfl) (Go.Sym.wds_length _ _)

theorem eq_same (x0 x1 x2 x3 : Int) (w : World) : (Op.equalIn 10000 26 (.agg #[.int .u64 x0, .int .u64 x1, .int .u64 x2, .int .u64 x3]) (.agg #[.int .u64 x0, .int .u64 x1, .int .u64 x2, .int .u64 x3])).run Try.prog w = .ok true w := by
  have h := Go.Sym.run_equalIn_arr (P := Try.prog) 9998 Try.underlying26 Try.underlying25 (by kernel_rfl) (xs := [x0, x1, x2, x3]) (ys := [x0, x1, x2, x3]) rfl rfl w
  rw [beq_self_eq_true] at h
  exact h

theorem eq_one (w : World) : (Op.equalIn 10000 26 (.agg #[.int .u64 12436184717236109307, .int .u64 3962172157175319849, .int .u64 7381016538464732718, .int .u64 1011752739694698287]) (.agg #[.int .u64 0, .int .u64 0, .int .u64 0, .int .u64 0])).run Try.prog w = .ok false w := by
  exact Go.Sym.run_equalIn_arr (P := Try.prog) 9998 Try.underlying26 Try.underlying25 (by kernel_rfl) (xs := [12436184717236109307, 3962172157175319849, 7381016538464732718, 1011752739694698287]) (ys := [0, 0, 0, 0]) rfl rfl w

set_option maxHeartbeats 1600000 in
set_option maxRecDepth 100000 in
theorem law_main (A B : Option Addr) (len capA capB : Nat) (a b : Nat → List Int) (w : World) (hlen : len ≤ 2147483647) (la : ∀ i, (a i).length = 4) (lb : ∀ i, (b i).length = 4) (ua : ∀ i, Go.Sym.u64s (a i)) (ub : ∀ i, Go.Sym.u64s (b i))
    (hA : 0 < len → ∃ ba off, A = some ⟨ba, off, none⟩ ∧ VecAt w ba off 4 len a)
    (hB : 0 < len → ∃ bb off, B = some ⟨bb, off, none⟩ ∧ VecAt w bb off 4 len b) (pa : allB a len = true) (pb : allB b len = true) :
    Calls Try.prog 3 #[.slice A len capA, .slice B len capB] w fun e w' => e = .returned (.bool true) ∧ Below w.heap.size w w' := by
  have PA := Lib.hid pa
  have PB := Lib.hid pb
  clear pa pb
  have h1 : ¬ ((2147483647 : Int) < (len : Int)) := by omega
  have q1 := eq_one
  go_enter Try.func3, Try.ntmps3
  go_wp2_with fail
  refine (all_any A len capA a w hlen la ua hA).mono ?_
  rw [PA.out]
  rintro e w1 ⟨rfl, b1⟩
  go_wp2_with fail
  refine (all_any B len capB b w1 hlen lb ub fun h => ?_).mono ?_
  · obtain ⟨bb, off, e1, e2⟩ := hB h
    exact ⟨bb, off, e1, vecAt_below e2 b1⟩
  rw [PB.out]
  rintro e w2 ⟨rfl, b2⟩
  have b12 := below_on b1 b2
  go_wp2_with fail
  refine (vecadd_any A B len capA capB a b w2 hlen la lb ua ub (fun h => ?_) (fun h => ?_)).mono ?_
  · obtain ⟨ba, off, e1, e2⟩ := hA h
    exact ⟨ba, off, e1, vecAt_below e2 b12⟩
  · obtain ⟨bb, off, e1, e2⟩ := hB h
    exact ⟨bb, off, e1, vecAt_below e2 b12⟩
  rintro e w3 ⟨v, rfl, hown, b3⟩
  obtain ⟨A1, c1, rfl, hO⟩ := own_vec (fun i => Go.Sym.wds_length _ _) hown
  have b13 := below_on b12 b3
  clear hown
  go_wp2_with fail
  refine (one_any w3).mono ?_
  rintro e w4 ⟨rfl, b4⟩
  have b14 := below_on b13 b4
  have hO4 : 0 < len → ∃ g, A1 = some ⟨g, 0, none⟩ ∧ VecAt w4 g 0 4 len (fun i => sumE (a i) (b i)) := fun h => by
    obtain ⟨g, e1, _, e2⟩ := hO h
    exact ⟨g, e1, vecAt_below e2 b4⟩
  clear hO b1 b2 b12 b3 b13 b4
  go_wp2_with fail
  clear q1
  go_loopw [6] (fun i wr => ∃ k : Nat, k ≤ len ∧ i = .int .i64 k ∧ Below w4.heap.size w4 wr)
    (fun i _ => len - (intOf i).toNat)
  case atStart => exact ⟨0, Nat.zero_le _, rfl, Below.refl _ _⟩
  case round =>
    obtain ⟨k, hk, rfl, hnx⟩ := hrel
    by_cases hlt : k < len
    · obtain ⟨ba, offa, rfl, hca⟩ := hA (by omega)
      obtain ⟨bb, offb, rfl, hcb⟩ := hB (by omega)
      obtain ⟨g, rfl, hco⟩ := hO4 (by omega)
      obtain ⟨x0, x1, x2, x3, hx⟩ := four (la k)
      obtain ⟨y0, y1, y2, y3, hy⟩ := four (lb k)
      obtain ⟨z0, z1, z2, z3, hz⟩ := four (show (sumE (a k) (b k)).length = 4 from Go.Sym.wds_length _ _)
      have hadd := fun w => add_any w (la k) (lb k) (ua k) (ub k)
      rw [hz, hx, hy] at hadd
      have hka := hca k hlt
      have hkb := hcb k hlt
      have hko := hco k hlt
      have hko' : Go.Sym.cellsAt w4 g (0 + k * 4) (sumE (a k) (b k)) := hko
      rw [hx] at hka
      rw [hy] at hkb
      rw [hz] at hko'
      have dn : ∀ (bl o : Nat) (v : Value), w.cell? ⟨bl, o, none⟩ = some v → wr.cell? ⟨bl, o, none⟩ = some v := fun bl o v h => (hnx.cell (p := ⟨bl, o, none⟩) (by show bl < _; have := Go.Sym.cell_lt h; have := b14.size; omega)).trans ((b14.cell (p := ⟨bl, o, none⟩) (Go.Sym.cell_lt h)).trans h)
      have do4 : ∀ (bl o : Nat) (v : Value), w4.cell? ⟨bl, o, none⟩ = some v → wr.cell? ⟨bl, o, none⟩ = some v := fun bl o v h => (hnx.cell (p := ⟨bl, o, none⟩) (Go.Sym.cell_lt h)).trans h
      have a0 := dn _ _ _ (hka 0 x0 rfl)
      have a1 := dn _ _ _ (hka 1 x1 rfl)
      have a2 := dn _ _ _ (hka 2 x2 rfl)
      have a3 := dn _ _ _ (hka 3 x3 rfl)
      have e0 := dn _ _ _ (hkb 0 y0 rfl)
      have e1 := dn _ _ _ (hkb 1 y1 rfl)
      have e2 := dn _ _ _ (hkb 2 y2 rfl)
      have e3 := dn _ _ _ (hkb 3 y3 rfl)
      have o0 := do4 _ _ _ (hko' 0 z0 rfl)
      have o1 := do4 _ _ _ (hko' 1 z1 rfl)
      have o2 := do4 _ _ _ (hko' 2 z2 rfl)
      have o3 := do4 _ _ _ (hko' 3 z3 rfl)
      simp only [Nat.add_zero, Nat.zero_add] at a0 a1 a2 a3 e0 e1 e2 e3 o0 o1 o2 o3
      have q2 := eq_same z0 z1 z2 z3
      have h2 : (0 : Int) ≤ (k : Int) := by omega
      have h3 : (k : Int) < (len : Int) := by omega
      clear hA hB hO4 hx hy hz hka hkb hko hko' hca hcb hco dn do4
      have ADD := Lib.hid hadd
      clear hadd
      go_wp2
      go_region_held3 (fun w' => w'.cell? ⟨ba, offa + k * 4, none⟩ = some (.int .u64 x0) ∧ w'.cell? ⟨ba, offa + k * 4 + 1, none⟩ = some (.int .u64 x1) ∧ w'.cell? ⟨ba, offa + k * 4 + 2, none⟩ = some (.int .u64 x2) ∧ w'.cell? ⟨ba, offa + k * 4 + 3, none⟩ = some (.int .u64 x3) ∧
          w'.cell? ⟨bb, offb + k * 4, none⟩ = some (.int .u64 y0) ∧ w'.cell? ⟨bb, offb + k * 4 + 1, none⟩ = some (.int .u64 y1) ∧ w'.cell? ⟨bb, offb + k * 4 + 2, none⟩ = some (.int .u64 y2) ∧ w'.cell? ⟨bb, offb + k * 4 + 3, none⟩ = some (.int .u64 y3) ∧
          w'.cell? ⟨g, k * 4, none⟩ = some (.int .u64 z0) ∧ w'.cell? ⟨g, k * 4 + 1, none⟩ = some (.int .u64 z1) ∧ w'.cell? ⟨g, k * 4 + 2, none⟩ = some (.int .u64 z2) ∧ w'.cell? ⟨g, k * 4 + 3, none⟩ = some (.int .u64 z3) ∧ Below w4.heap.size w4 w')
        (first | assumption | (exact ⟨a0, a1, a2, a3, e0, e1, e2, e3, o0, o1, o2, o3, hnx.drew⟩) | (go_split_ands; exact ⟨Below.cell_of hb (by assumption), Below.cell_of hb (by assumption), Below.cell_of hb (by assumption), Below.cell_of hb (by assumption), Below.cell_of hb (by assumption), Below.cell_of hb (by assumption), Below.cell_of hb (by assumption), Below.cell_of hb (by assumption), Below.cell_of hb (by assumption), Below.cell_of hb (by assumption), Below.cell_of hb (by assumption), Below.cell_of hb (by assumption), below_on (by assumption) hb⟩))
        (first | (go_at_call 7; refine (ADD.out _).mono ?_; rintro e w' ⟨rfl, hb⟩))
      all_goals
        go_split_ands
        go_wp2
        go_roundw
        case rel => exact ⟨k + 1, by omega, by go_num, by assumption⟩
        case measure => simp [intOf]; omega
    · go_wp2
      go_ret
      exact ⟨rfl, below_on b14 hnx⟩

theorem law_long (A B : Option Addr) (lenA lenB capA capB : Nat) (w : World) (h : 2147483647 < lenA ∨ 2147483647 < lenB) :
    Calls Try.prog 3 #[.slice A lenA capA, .slice B lenB capB] w fun e w' => e = .returned (.bool true) ∧ Below w.heap.size w w' := by
  by_cases h1 : (2147483647 : Int) < (lenA : Int)
  · go_enter Try.func3, Try.ntmps3
    go_wp2
    go_ret
    exact ⟨rfl, Below.refl _ _⟩
  · have h2 : (2147483647 : Int) < (lenB : Int) := by omega
    clear h
    go_enter Try.func3, Try.ntmps3
    go_wp2
    go_ret
    exact ⟨rfl, Below.refl _ _⟩

theorem law_other (A B : Option Addr) (lenA lenB capA capB : Nat) (w : World) (hA : lenA ≤ 2147483647) (hB : lenB ≤ 2147483647) (h : lenA ≠ lenB) :
    Calls Try.prog 3 #[.slice A lenA capA, .slice B lenB capB] w fun e w' => e = .returned (.bool true) ∧ Below w.heap.size w w' := by
  have h1 : ¬ ((2147483647 : Int) < (lenA : Int)) := by omega
  have h2 : ¬ ((2147483647 : Int) < (lenB : Int)) := by omega
  have h3 : ¬ ((lenA : Int) = (lenB : Int)) := by omega
  go_enter Try.func3, Try.ntmps3
  go_wp2
  go_ret
  exact ⟨rfl, Below.refl _ _⟩

theorem law_not (A B : Option Addr) (len capA capB : Nat) (a b : Nat → List Int) (w : World) (hlen : len ≤ 2147483647) (la : ∀ i, (a i).length = 4) (lb : ∀ i, (b i).length = 4) (ua : ∀ i, Go.Sym.u64s (a i)) (ub : ∀ i, Go.Sym.u64s (b i))
    (hA : 0 < len → ∃ ba off, A = some ⟨ba, off, none⟩ ∧ VecAt w ba off 4 len a)
    (hB : 0 < len → ∃ bb off, B = some ⟨bb, off, none⟩ ∧ VecAt w bb off 4 len b) (pn : allB a len = false ∨ allB b len = false) :
    Calls Try.prog 3 #[.slice A len capA, .slice B len capB] w fun e w' => e = .returned (.bool true) ∧ Below w.heap.size w w' := by
  have h1 : ¬ ((2147483647 : Int) < (len : Int)) := by omega
  by_cases pa : allB a len = true
  · have pb : allB b len = false := by rcases pn with h | h <;> simp_all
    have PA := Lib.hid pa
    have PB := Lib.hid pb
    clear pa pb pn
    go_enter Try.func3, Try.ntmps3
    go_wp2_with fail
    refine (all_any A len capA a w hlen la ua hA).mono ?_
    rw [PA.out]
    rintro e w1 ⟨rfl, b1⟩
    go_wp2_with fail
    refine (all_any B len capB b w1 hlen lb ub fun h => ?_).mono ?_
    · obtain ⟨bb, off, e1, e2⟩ := hB h
      exact ⟨bb, off, e1, vecAt_below e2 b1⟩
    rw [PB.out]
    rintro e w2 ⟨rfl, b2⟩
    have b12 := below_on b1 b2
    go_wp2_with fail
    go_ret
    exact ⟨rfl, b12⟩
  · have pa' : allB a len = false := by simpa using pa
    have PA := Lib.hid pa'
    clear pa pa' pn
    go_enter Try.func3, Try.ntmps3
    go_wp2_with fail
    refine (all_any A len capA a w hlen la ua hA).mono ?_
    rw [PA.out]
    rintro e w1 ⟨rfl, b1⟩
    go_wp2_with fail
    go_ret
    exact ⟨rfl, b1⟩

/-- The law's walk, whatever two vectors come in. -/
theorem law_walk (A B : Option Addr) (lenA lenB capA capB : Nat) (a b : Nat → List Int) (w : World) (la : ∀ i, (a i).length = 4) (lb : ∀ i, (b i).length = 4) (ua : ∀ i, Go.Sym.u64s (a i)) (ub : ∀ i, Go.Sym.u64s (b i))
    (hA : 0 < lenA → ∃ ba off, A = some ⟨ba, off, none⟩ ∧ VecAt w ba off 4 lenA a)
    (hB : 0 < lenB → ∃ bb off, B = some ⟨bb, off, none⟩ ∧ VecAt w bb off 4 lenB b) :
    Calls Try.prog 3 #[.slice A lenA capA, .slice B lenB capB] w fun e w' => e = .returned (.bool true) ∧ Below w.heap.size w w' := by
  by_cases h : 2147483647 < lenA ∨ 2147483647 < lenB
  · exact law_long A B lenA lenB capA capB w h
  by_cases hne : lenA = lenB
  · subst hne
    by_cases hp : allB a lenA = true ∧ allB b lenA = true
    · exact law_main A B lenA capA capB a b w (by omega) la lb ua ub hA hB hp.1 hp.2
    · refine law_not A B lenA capA capB a b w (by omega) la lb ua ub hA hB ?_
      cases h1 : allB a lenA <;> cases h2 : allB b lenA <;> simp_all
  · exact law_other A B lenA lenB capA capB w (by omega) (by omega) hne

end Go.Proofs.Ytdjdbacpokclpaa
