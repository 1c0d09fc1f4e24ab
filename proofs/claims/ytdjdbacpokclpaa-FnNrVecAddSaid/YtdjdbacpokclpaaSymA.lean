/- Symbolic runs of straight Go code over the model: the words, the values, what is kept of the world. -/
import Derived.Orders
import Derived.Below
import Derived.Laws.Entries
import Derived.LoopN
namespace Go.Sym

/-! ### words -/
inductive E where
  | v (i : Nat)
  | c (n : Int)
  deriving DecidableEq, Inhabited, Repr

def E.den (ρ : Nat → Int) : E → Int
  | .v i => ρ i
  | .c n => n

inductive K where
  | i (k : IntKind)
  | bit
  | bool
  deriving DecidableEq, Inhabited, Repr

def K.holds : K → Int → Prop
  | .i .u64, n => 0 ≤ n ∧ n < 18446744073709551616
  | .i .i64, n => -9223372036854775808 ≤ n ∧ n < 9223372036854775808
  | .i .u8, n => 0 ≤ n ∧ n < 256
  | .i _, _ => False
  | .bit, n => 0 ≤ n ∧ n ≤ 1
  | .bool, n => 0 ≤ n ∧ n ≤ 1

def K.okB : K → Int → Bool
  | .i .u64, n => decide (0 ≤ n ∧ n < 18446744073709551616)
  | .i .i64, n => decide (-9223372036854775808 ≤ n ∧ n < 9223372036854775808)
  | .i .u8, n => decide (0 ≤ n ∧ n < 256)
  | .i _, _ => false
  | .bit, n => decide (0 ≤ n ∧ n ≤ 1)
  | .bool, n => decide (0 ≤ n ∧ n ≤ 1)

theorem K.holds_of_okB {k : K} {n : Int} (h : k.okB n = true) : k.holds n := by
  match k with
  | .i .u64 | .i .i64 | .i .u8 | .bit | .bool => simpa [K.okB, K.holds] using h
  | .i .i8 | .i .i16 | .i .i32 | .i .u16 | .i .u32 => simp [K.okB] at h

/-- A word of kind a may stand where one of kind b is wanted. -/
def K.le : K → K → Bool
  | a, b => a == b || (a == .bit && b == .i .u64)

theorem K.holds_le {a b : K} (h : a.le b = true) {n : Int} (hn : a.holds n) : b.holds n := by
  simp only [K.le, Bool.or_eq_true, beq_iff_eq, Bool.and_eq_true] at h
  rcases h with rfl | ⟨rfl, rfl⟩
  · exact hn
  · simp only [K.holds] at *; omega

def b2i (b : Bool) : Int := if b then 1 else 0

def binV (op : BinOp) (k : IntKind) (x y : Int) : Int :=
  match op with
  | .add => k.wrap (x + y)
  | .sub => k.wrap (x - y)
  | .mul => k.wrap (x * y)
  | .rem => k.wrap (x.tmod y)
  | op => bits op k x y

def cmpV (op : BinOp) (x y : Int) : Bool :=
  match op with
  | .eql => x == y
  | .neq => x != y
  | .lss => decide (x < y)
  | .leq => decide (x ≤ y)
  | .gtr => decide (x > y)
  | .geq => decide (x ≥ y)
  | _ => false

inductive I where
  | bin (op : BinOp) (k : IntKind) (x y : E)
  | cmp (op : BinOp) (x y : E)
  | shl (k : IntKind) (x y : E)
  | shr (k : IntKind) (x y : E)
  | neg (k : IntKind) (x : E)
  | inv (k : IntKind) (x : E)
  | cnv (k : IntKind) (x : E)
  | not (x : E)
  | beq (x y : E)
  | eqs (xs ys : List E)
  | pick (c x y : E)
  | max (x y : E)
  | min (x y : E)
  | fn (f : Nat) (xs : List E) (j : Nat)
  deriving DecidableEq, Inhabited

def eqsV (ρ : Nat → Int) : List E → List E → Bool
  | [], [] => true
  | x :: xs, y :: ys => (x.den ρ == y.den ρ) && eqsV ρ xs ys
  | _, _ => false

def I.val (Φ : Nat → List Int → List Int) (ρ : Nat → Int) : I → Int
  | .bin op k x y => binV op k (x.den ρ) (y.den ρ)
  | .cmp op x y => b2i (cmpV op (x.den ρ) (y.den ρ))
  | .shl k x y => k.wrap (x.den ρ * 2 ^ (Nat.min (y.den ρ).toNat k.bits))
  | .shr k x y => (x.den ρ).fdiv (2 ^ (Nat.min (y.den ρ).toNat k.bits))
  | .neg k x => k.wrap (0 - x.den ρ)
  | .inv k x => bits .xor k (if k.signed then -1 else k.max) (x.den ρ)
  | .cnv k x => k.wrap (x.den ρ)
  | .not x => b2i (x.den ρ == 0)
  | .beq x y => b2i ((x.den ρ == 0) == (y.den ρ == 0))
  | .eqs xs ys => b2i (eqsV ρ xs ys)
  | .pick c x y => if c.den ρ == 0 then y.den ρ else x.den ρ
  | .max x y => if x.den ρ < y.den ρ then y.den ρ else x.den ρ
  | .min x y => if y.den ρ < x.den ρ then y.den ρ else x.den ρ
  | .fn f xs j => (Φ f (xs.map (E.den ρ))).getD j 0

/-! ### values -/
inductive S where
  | undef
  | int (k : IntKind) (e : E)
  | bool (e : E)
  | ptr (r o : Nat)
  | nilp
  | slc (r o len cap : Nat)
  | nils
  deriving DecidableEq, Inhabited

def S.den (ρ : Nat → Int) (β : Nat → Nat × Nat) : S → Value
  | .undef => Go.undef
  | .int k e => .int k (e.den ρ)
  | .bool e => .bool (!(e.den ρ == 0))
  | .ptr r o => .pointer (some ⟨(β r).1, (β r).2 + o, none⟩)
  | .nilp => .pointer none
  | .slc r o len cap => .slice (some ⟨(β r).1, (β r).2 + o, none⟩) len cap
  | .nils => .slice none 0 0

inductive SV where
  | s (x : S)
  | agg (xs : List S)
  | tup (xs : List S)
  deriving DecidableEq, Inhabited

def SV.den (ρ : Nat → Int) (β : Nat → Nat × Nat) : SV → Value
  | .s x => x.den ρ β
  | .agg xs => .agg (xs.map (S.den ρ β)).toArray
  | .tup xs => .tuple (xs.map (S.den ρ β)).toArray

def S.ref : S → Option Nat
  | .ptr r _ => some r
  | .slc r _ _ _ => some r
  | _ => none

def SV.refs : SV → List Nat
  | .s x => x.ref.toList
  | .agg xs => xs.filterMap S.ref
  | .tup xs => xs.filterMap S.ref

theorem S.den_congr {ρ : Nat → Int} {β β' : Nat → Nat × Nat} {x : S} (h : ∀ r, x.ref = some r → β' r = β r) : x.den ρ β' = x.den ρ β := by
  cases x <;> simp [S.den, S.ref] at *
  · rw [h]; simp
  · rw [h]; simp

theorem SV.den_congr {ρ : Nat → Int} {β β' : Nat → Nat × Nat} {x : SV} (h : ∀ r ∈ x.refs, β' r = β r) : x.den ρ β' = x.den ρ β := by
  cases x with
  | s x => exact S.den_congr fun r hr => h r (by simp [SV.refs, hr])
  | agg xs =>
    simp only [SV.den]
    rw [List.map_congr_left fun x hx => S.den_congr fun r hr => h r (by simp only [SV.refs, List.mem_filterMap]; exact ⟨x, hx, hr⟩)]
  | tup xs =>
    simp only [SV.den]
    rw [List.map_congr_left fun x hx => S.den_congr fun r hr => h r (by simp only [SV.refs, List.mem_filterMap]; exact ⟨x, hx, hr⟩)]

/-- A constant as a value. -/
def S.ofVal : Value → Option S
  | .int k n => some (.int k (.c n))
  | .bool b => some (.bool (.c (if b then 1 else 0)))
  | .pointer none => some .nilp
  | .slice none 0 0 => some .nils
  | _ => none

theorem S.ofVal_den {v : Value} {x : S} (h : S.ofVal v = some x) (ρ : Nat → Int) (β : Nat → Nat × Nat) : x.den ρ β = v ∧ x.ref = none := by
  unfold S.ofVal at h
  split at h <;> simp only [Option.some.injEq, reduceCtorEq] at h <;> subst h
  · exact ⟨rfl, rfl⟩
  · rename_i b; cases b <;> exact ⟨rfl, rfl⟩
  · exact ⟨rfl, rfl⟩
  · exact ⟨rfl, rfl⟩

/-- The cells of a value that a variable can hold. -/
def SV.cells : SV → Option (List S)
  | .s .undef => none
  | .s x => some [x]
  | .agg xs => some xs
  | .tup _ => none

theorem SV.cells_den {x : SV} {xs : List S} (h : x.cells = some xs) (ρ : Nat → Int) (β : Nat → Nat × Nat) :
    (x.den ρ β).cells = (xs.map (S.den ρ β)).toArray ∧ x.refs = xs.filterMap S.ref := by
  cases x with
  | s y =>
    cases y <;> simp [SV.cells] at h <;> subst h <;> simp [SV.den, S.den, Value.cells, SV.refs, S.ref, List.filterMap_cons]
  | agg ys => simp [SV.cells] at h; subst h; simp [SV.den, Value.cells, SV.refs]
  | tup ys => simp [SV.cells] at h

/-- No cell of a row holds an aggregate or a tuple. -/
def S.plain : S → Bool
  | .undef => false
  | _ => true

theorem S.plain_den {x : S} (h : x.plain = true) (ρ : Nat → Int) (β : Nat → Nat × Nat) : (∀ cs, x.den ρ β ≠ .agg cs) ∧ (∀ cs, x.den ρ β ≠ .tuple cs) := by
  cases x <;> simp [S.plain, S.den] at *

/-! ### what is kept of the world -/
def BlkOK (Sx : Nat → Prop) (o o' : Option Obj) : Prop :=
  o' = o ∨ ∃ c c' t fr, o = some (.cells c t fr) ∧ o' = some (.cells c' t fr) ∧ c'.size = c.size ∧ ∀ j, ¬ Sx j → c'[j]? = c[j]?

structure Keeps (w w' : World) (Sx : Nat → Nat → Prop) : Prop where
  os : w'.os = w.os
  tape : w'.tape = w.tape
  output : w'.output = w.output
  size : w.heap.size ≤ w'.heap.size
  blk : ∀ b, b < w.heap.size → BlkOK (Sx b) w.heap[b]? w'.heap[b]?

theorem Keeps.refl (w : World) (Sx : Nat → Nat → Prop) : Keeps w w Sx := ⟨rfl, rfl, rfl, Nat.le_refl _, fun _ _ => .inl rfl⟩

theorem BlkOK.trans {S1 S2 S3 : Nat → Prop} {a b c : Option Obj} (h : BlkOK S1 a b) (k : BlkOK S2 b c) (m1 : ∀ j, S1 j → S3 j) (m2 : ∀ j, S2 j → S3 j) : BlkOK S3 a c := by
  rcases h with rfl | ⟨c1, c2, t, fr, rfl, rfl, hs, hc⟩
  · rcases k with rfl | ⟨c1, c2, t, fr, h1, h2, hs, hc⟩
    · exact .inl rfl
    · exact .inr ⟨c1, c2, t, fr, h1, h2, hs, fun j hj => hc j fun h => hj (m2 j h)⟩
  · rcases k with rfl | ⟨c3, c4, t', fr', h1, h2, hs', hc'⟩
    · exact .inr ⟨c1, c2, t, fr, rfl, rfl, hs, fun j hj => hc j fun h => hj (m1 j h)⟩
    · simp only [Option.some.injEq, Obj.cells.injEq] at h1
      obtain ⟨rfl, rfl, rfl⟩ := h1
      exact .inr ⟨c1, c4, t, fr, rfl, h2, hs'.trans hs, fun j hj => (hc' j fun h => hj (m2 j h)).trans (hc j fun h => hj (m1 j h))⟩

/-- Two steps; the second may also write blocks that the first made. -/
theorem Keeps.trans {w w1 w2 : World} {S1 S2 S3 : Nat → Nat → Prop} (h : Keeps w w1 S1) (k : Keeps w1 w2 S2)
    (m1 : ∀ b j, b < w.heap.size → S1 b j → S3 b j) (m2 : ∀ b j, b < w.heap.size → S2 b j → S3 b j) : Keeps w w2 S3 :=
  ⟨k.os.trans h.os, k.tape.trans h.tape, k.output.trans h.output, Nat.le_trans h.size k.size,
    fun b hb => (h.blk b hb).trans (k.blk b (Nat.lt_of_lt_of_le hb h.size)) (m1 b · hb) (m2 b · hb)⟩

theorem Keeps.cell {w w' : World} {Sx : Nat → Nat → Prop} (h : Keeps w w' Sx) {b o : Nat} (hb : b < w.heap.size) (hs : ¬ Sx b o) :
    w'.cell? ⟨b, o, none⟩ = w.cell? ⟨b, o, none⟩ := by
  rcases h.blk b hb with e | ⟨c, c', t, fr, h1, h2, _, hc⟩
  · simp [World.cell?, e]
  · simp [World.cell?, h1, h2, hc o hs]

theorem Keeps.frozen {w w' : World} {Sx : Nat → Nat → Prop} (h : Keeps w w' Sx) {b : Nat} (o : Nat) (hb : b < w.heap.size) :
    w'.frozen? ⟨b, o, none⟩ = w.frozen? ⟨b, o, none⟩ := by
  rcases h.blk b hb with e | ⟨c, c', t, fr, h1, h2, _, hc⟩
  · simp [World.frozen?, e]
  · simp [World.frozen?, h1, h2]

theorem cell_lt {w : World} {b o : Nat} {v : Value} (h : w.cell? ⟨b, o, none⟩ = some v) : b < w.heap.size := by
  rcases Nat.lt_or_ge b w.heap.size with hb | hb
  · exact hb
  · simp [World.cell?, Array.getElem?_eq_none hb] at h

theorem Keeps.below {w w' : World} (h : Keeps w w' (fun _ _ => False)) : Go.RowKit.Below w.heap.size w w' :=
  ⟨h.os, h.tape, h.output, h.size, fun b hb => by
    rcases h.blk b hb with e | ⟨c, c', t, fr, h1, h2, hs, hc⟩
    · exact e
    · rw [h1, h2]
      congr 2
      exact Array.ext (by omega) fun i h1 h2 => by have := hc i (by simp); rw [Array.getElem?_eq_getElem h1, Array.getElem?_eq_getElem h2] at this; simpa using this⟩

theorem Keeps.drew (w : World) (Sx : Nat → Nat → Prop) : Keeps w { w with drawn := w.drawn + 1 } Sx := ⟨rfl, rfl, rfl, Nat.le_refl _, fun _ _ => .inl rfl⟩

theorem Keeps.alloc (w : World) (o : Obj) (Sx : Nat → Nat → Prop) : Keeps w { w with heap := w.heap.push o } Sx :=
  ⟨rfl, rfl, rfl, by simp, fun b hb => .inl (by simp [Array.getElem?_push, Nat.ne_of_lt hb])⟩

theorem Keeps.setCell (w : World) (b o : Nat) (v : Value) (Sx : Nat → Nat → Prop) (hS : Sx b o) : Keeps w (w.setCell ⟨b, o, none⟩ v) Sx := by
  refine ⟨rfl, rfl, rfl, by simp [World.setCell], fun k hk => ?_⟩
  simp only [World.setCell, Array.getElem?_modify]
  by_cases hkb : b = k
  · subst hkb
    simp only [if_true]
    cases hh : w.heap[b]? with
    | none => exact .inl rfl
    | some ob =>
      cases ob
      case cells c t fr =>
        refine .inr ⟨c, c.setIfInBounds o v, t, fr, rfl, rfl, by simp, fun j hj => ?_⟩
        rw [Array.getElem?_setIfInBounds_ne]
        intro e
        exact hj (e ▸ hS)
      all_goals exact .inl rfl
  · simp only [hkb, if_false]
    exact .inl rfl

end Go.Sym
