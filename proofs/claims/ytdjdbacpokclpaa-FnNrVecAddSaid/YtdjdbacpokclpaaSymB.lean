/- Symbolic runs of straight Go code over the model: one operation. -/
import Derived.Test.YtdjdbacpokclpaaSymA
namespace Go.Sym

/-! ### what a callee does: its arguments' kinds, what it writes, its results; the numbers by a function -/
inductive AK where
  | sc (k : K)
  | cn (n : Int)
  | ptr (n : Nat)
  | slc (n : Nat)
  | agg (n : Nat)
  deriving DecidableEq, Inhabited

inductive RK where
  | sc (k : K)
  | arg (i : Nat)
  | slc (n : Nat)
  | agg (n : Nat)
  deriving DecidableEq, Inhabited

structure Summ where
  args : List AK
  wr : Option Nat
  res : List RK
  deriving DecidableEq, Inhabited

inductive AV where
  | sc (n : Int)
  | ptr (b o : Nat) (ws : List Int)
  | slc (b o cap : Nat) (ws : List Int)
  | agg (ws : List Int)

def u64s (ws : List Int) : Prop := ∀ x ∈ ws, (K.i .u64).holds x

def cellsAt (w : World) (b o : Nat) (ws : List Int) : Prop := ∀ j x, ws[j]? = some x → w.cell? ⟨b, o + j, none⟩ = some (.int .u64 x)

def unfrozenAt (w : World) (b o n : Nat) : Prop := ∀ j, j < n → w.frozen? ⟨b, o + j, none⟩ = false

def AV.ok (w : World) : AK → AV → Prop
  | .sc k, .sc n => k.holds n
  | .cn m, .sc n => n = m ∧ (K.i .i64).holds m
  | .ptr n, .ptr b o ws => ws.length = n ∧ u64s ws ∧ cellsAt w b o ws
  | .slc n, .slc b o cap ws => ws.length = n ∧ cap = n ∧ u64s ws ∧ cellsAt w b o ws
  | .agg n, .agg ws => ws.length = n ∧ u64s ws
  | _, _ => False

def K.val : K → Int → Value
  | .i k, n => .int k n
  | .bit, n => .int .u64 n
  | .bool, n => .bool (!(n == 0))

def AV.val : AK → AV → Value
  | .sc k, .sc n => k.val n
  | .cn _, .sc n => .int .i64 n
  | _, .sc n => .int .u64 n
  | _, .ptr b o _ => .pointer (some ⟨b, o, none⟩)
  | _, .slc b o cap ws => .slice (some ⟨b, o, none⟩) ws.length cap
  | _, .agg ws => .agg (ws.map (Value.int .u64)).toArray

def AV.ints : AV → List Int
  | .sc n => [n]
  | .ptr _ _ ws | .slc _ _ _ ws | .agg ws => ws

/-- Where an argument lies. -/
def AV.place : AV → Option (Nat × Nat × Nat)
  | .ptr b o ws | .slc b o _ ws => some (b, o, ws.length)
  | _ => none

inductive AVs (w : World) : List AK → List AV → Prop where
  | nil : AVs w [] []
  | cons {k : AK} {x : AV} {ks : List AK} {xs : List AV} (h : x.ok w k) (t : AVs w ks xs) : AVs w (k :: ks) (x :: xs)

def argVals : List AK → List AV → List Value
  | k :: ks, x :: xs => x.val k :: argVals ks xs
  | _, _ => []

def apartPl (p q : Nat × Nat × Nat) : Prop := p.1 ≠ q.1 ∨ p.2.1 + p.2.2 ≤ q.2.1 ∨ q.2.1 + q.2.2 ≤ p.2.1

/-- The one argument that is written is apart from every other, but for one at the most, which is the very same. -/
def aliasOK (s : Summ) (xs : List AV) : Prop :=
  ∀ (i : Nat) (p : Nat × Nat × Nat), s.wr = some i → (xs[i]?).bind AV.place = some p → ∃ al : Option Nat, ∀ (j : Nat) (q : Nat × Nat × Nat), j ≠ i → (xs[j]?).bind AV.place = some q →
    (al = some j → p.1 = q.1 ∧ p.2.1 = q.2.1 ∧ s.args[j]? = s.args[i]?) ∧ (al ≠ some j → apartPl p q)

def wrPlace (s : Summ) (xs : List AV) : Option (Nat × Nat × Nat) := s.wr.bind fun i => (xs[i]?).bind AV.place

def wrSet (p : Option (Nat × Nat × Nat)) (b o : Nat) : Prop :=
  match p with
  | some (b', o', n) => b = b' ∧ o' ≤ o ∧ o < o' + n
  | none => False

def wrLen (s : Summ) : Nat := match s.wr.bind (s.args[·]?) with | some (.ptr n) => n | _ => 0

/-- The results, one by one, out of the numbers that are left; 'nb' is the new block's number. -/
def resVals (xs : List AV) (nb : Nat) : List RK → List Int → List Value
  | [], _ => []
  | .sc k :: rs, outs => k.val (outs.getD 0 0) :: resVals xs nb rs (outs.drop 1)
  | .arg i :: rs, outs => (match (xs[i]?).bind AV.place with | some (b, o, _) => .pointer (some ⟨b, o, none⟩) | none => .pointer none) :: resVals xs nb rs outs
  | .slc n :: rs, outs => .slice (some ⟨nb, 0, none⟩) n n :: resVals xs nb rs (outs.drop n)
  | .agg n :: rs, outs => .agg ((outs.take n).map (Value.int .u64)).toArray :: resVals xs nb rs (outs.drop n)

def oneOrTuple : List Value → Value
  | [v] => v
  | vs => .tuple vs.toArray

/-- The new memory that the results name: its numbers. -/
def freshOf : List RK → List Int → Option (List Int)
  | [], _ => none
  | .sc _ :: rs, outs => freshOf rs (outs.drop 1)
  | .arg _ :: rs, outs => freshOf rs outs
  | .slc n :: _, outs => some (outs.take n)
  | .agg n :: rs, outs => freshOf rs (outs.drop n)

def kindsOf : List RK → List K
  | [] => []
  | .sc k :: rs => k :: kindsOf rs
  | .arg _ :: rs => kindsOf rs
  | .slc n :: rs | .agg n :: rs => List.replicate n (.i .u64) ++ kindsOf rs

def Summ.outKinds (s : Summ) : List K := List.replicate (wrLen s) (.i .u64) ++ kindsOf s.res

def Summ.inKinds (s : Summ) : List K := s.args.flatMap fun | .sc k => [k] | .cn _ => [.i .i64] | .ptr n | .slc n | .agg n => List.replicate n (.i .u64)

def holdsAll : List K → List Int → Prop
  | [], [] => True
  | k :: ks, x :: xs => k.holds x ∧ holdsAll ks xs
  | _, _ => False

structure CallPost (s : Summ) (xs : List AV) (outs : List Int) (w w' : World) (nb : Nat) : Prop where
  keeps : Keeps w w' (wrSet (wrPlace s xs))
  wr : ∀ b o n, wrPlace s xs = some (b, o, n) → cellsAt w' b o (outs.take n)
  fr : ∀ ws, freshOf s.res (outs.drop (wrLen s)) = some ws → w.heap.size ≤ nb ∧ nb < w'.heap.size ∧ cellsAt w' nb 0 ws ∧ unfrozenAt w' nb 0 ws.length

structure SummOK (P : Program) (f : Nat) (s : Summ) (F : List Int → List Int) : Prop where
  kinds : ∀ ins, holdsAll s.inKinds ins → holdsAll s.outKinds (F ins)
  calls : ∀ (xs : List AV) (w : World), AVs w s.args xs → aliasOK s xs → (∀ b o n, wrPlace s xs = some (b, o, n) → unfrozenAt w b o n) →
    ∀ (a : Act) (o : Oper) (as : Array Operand) (ats : Array TypeId) (K : Act → World → Prop) (Q : Exit → Act → World → Prop),
      o.op = .call { callee := .value (.func f), args := as, argTypes := ats } → (as.map a.eval).toList = argVals s.args xs →
      (∀ w' nb, CallPost s xs (F (xs.flatMap AV.ints)) w w' nb → K (a.put o.dst (oneOrTuple (resVals xs nb s.res ((F (xs.flatMap AV.ints)).drop (wrLen s))))) w') →
      o.wp P a w K Q

/-! ### one operation: what it yields -/
structure Out where
  sv : SV
  ins : List (K × I) := []
  wr : Option (Nat × Nat × List S) := none
  fr : Option (List S) := none
  tch : List Nat := []
  deriving Inhabited, DecidableEq

structure Cx where
  narg : Nat
  wl : List Nat
  tbl : List (Nat × Summ)

def Cx.writable (cx : Cx) (r : Nat) : Bool := decide (cx.narg ≤ r) || cx.wl.contains r

/-- What an operation sees. -/
structure View where
  v : Operand → Option SV
  rd : Nat → Option (List S)
  kd : Nat → Option K
  dec : E → Option Bool
  nv : Nat
  nr : Nat

def View.kdE (V : View) (e : E) (k : K) : Bool :=
  match e with
  | .c n => k.okB n
  | .v i => match V.kd i with | some k' => k'.le k | none => false

def View.int (V : View) (x : Operand) : Option (IntKind × E) :=
  match V.v x with
  | some (.s (.int k e)) => some (k, e)
  | _ => none

def View.bool (V : View) (x : Operand) : Option E :=
  match V.v x with
  | some (.s (.bool e)) => some e
  | _ => none

def aMove (V : View) (x : Operand) : Option Out := (V.v x).map fun sv => { sv := sv }

def aPick (V : View) (c x y : Operand) : Option Out :=
  match V.bool c with
  | none => none
  | some e => match V.dec e with
    | some true => aMove V x
    | some false => aMove V y
    | none => match V.v x, V.v y with
      | some (.s (.bool ex)), some (.s (.bool ey)) => if V.kdE ex .bool && V.kdE ey .bool then some { sv := .s (.bool (.v V.nv)), ins := [(.bool, .pick e ex ey)] } else none
      | some (.s (.int k ex)), some (.s (.int k' ey)) => if k = k' ∧ V.kdE ex (.i k) ∧ V.kdE ey (.i k) then some { sv := .s (.int k (.v V.nv)), ins := [(.i k, .pick e ex ey)] } else none
      | _, _ => none

def zeroCells (P : Program) (t : TypeId) : Option (List S) :=
  match P.info? t with
  | some i => match i.zero with
    | some z => z.cells.toList.mapM S.ofVal
    | none => none
  | none => none

def aAlloc (P : Program) (V : View) (t : TypeId) : Option Out :=
  match zeroCells P t with
  | some cs => some { sv := .s (.ptr V.nr 0), fr := some cs }
  | none => none

def aBox (V : View) (x : Operand) : Option Out :=
  match V.v x with
  | some sv => match sv.cells with
    | some cs => if cs.all S.plain then some { sv := .s (.ptr V.nr 0), fr := some cs } else none
    | none => none
  | none => none

def isAggB (P : Program) (t : TypeId) : Option Bool :=
  match P.underlying t with
  | some (.struct _) | some (.array _ _) => some true
  | some _ => some false
  | none => none

def sizeB (P : Program) (t : TypeId) : Option Nat := (P.info? t).map (·.size)

/-- n cells of a row from o on. -/
def window (cs : List S) (o n : Nat) : Option (List S) := if o + n ≤ cs.length then some ((cs.drop o).take n) else none

def aLoad (P : Program) (V : View) (t : TypeId) (x : Operand) : Option Out :=
  match V.v x with
  | some (.s (.ptr r o)) => match V.rd r with
    | some cs => match isAggB P t with
      | some true => match sizeB P t with
        | some n => (window cs o n).map fun xs => { sv := .agg xs, tch := [r] }
        | none => none
      | some false => (cs[o]?).map fun s => { sv := .s s, tch := [r] }
      | none => none
    | none => none
  | _ => none

def aStore (cx : Cx) (P : Program) (V : View) (t : TypeId) (x y : Operand) : Option Out :=
  match V.v x, V.v y with
  | some (.s (.ptr r o)), some sv => match V.rd r, sv.cells, sizeB P t with
    | some cs, some xs, some n =>
      if xs.length = n ∧ o + n ≤ cs.length ∧ cx.writable r ∧ xs.all S.plain then some { sv := .s .undef, wr := some (r, o, xs), tch := [r] } else none
    | _, _, _ => none
  | _, _ => none

def aNil (V : View) (x : Operand) : Option Out :=
  match V.v x with
  | some (.s (.ptr r o)) => some { sv := .s (.ptr r o) }
  | _ => none

def kindOK : IntKind → Bool
  | .u64 | .i64 | .u8 => true
  | _ => false

def aInt (V : View) (op : BinOp) (k : IntKind) (x y : E) : Option Out :=
  if kindOK k then
    match op with
    | .add | .sub | .mul | .and | .or | .xor | .andNot => some { sv := .s (.int k (.v V.nv)), ins := [(.i k, .bin op k x y)] }
    | .eql | .neq | .lss | .leq | .gtr | .geq => some { sv := .s (.bool (.v V.nv)), ins := [(.bool, .cmp op x y)] }
    | _ => none
  else none

/-- Constants are reckoned out. -/
def aIntC (V : View) (op : BinOp) (k : IntKind) (x y : E) : Option Out :=
  match x, y with
  | .c m, .c n => if kindOK k then
      match op with
      | .add | .sub | .mul | .and | .or | .xor | .andNot => some { sv := .s (.int k (.c (binV op k m n))) }
      | .eql | .neq | .lss | .leq | .gtr | .geq => some { sv := .s (.bool (.c (b2i (cmpV op m n)))) }
      | _ => none
    else none
  | _, _ => aInt V op k x y

def E.nonneg : E → Bool
  | .c n => decide (0 ≤ n)
  | _ => false

def aShift (V : View) (op : BinOp) (k yk : IntKind) (x y : E) : Option Out :=
  if kindOK k && V.kdE x (.i k) && ((yk == .u64 && V.kdE y (.i .u64)) || y.nonneg) then
    match op with
    | .shl => match x, y with
      | .c m, .c n => some { sv := .s (.int k (.c (k.wrap (m * 2 ^ (Nat.min n.toNat k.bits))))) }
      | _, _ => some { sv := .s (.int k (.v V.nv)), ins := [(.i k, .shl k x y)] }
    | .shr => some { sv := .s (.int k (.v V.nv)), ins := [(.i k, .shr k x y)] }
    | _ => none
  else none

def words (V : View) (xs : List S) : Option (List E) :=
  match xs with
  | [] => some []
  | .int .u64 e :: rest => if V.kdE e (.i .u64) then (words V rest).map (e :: ·) else none
  | _ => none

/-- What is left of a word behind a division by a number above 0. -/
def aRem (V : View) (k : IntKind) (x y : E) : Option Out :=
  match k, y with
  | .u64, .c n => if 0 < n ∧ V.kdE x (.i .u64) then some { sv := .s (.int .u64 (.v V.nv)), ins := [(.i .u64, .bin .rem .u64 x (.c n))] } else none
  | .i64, .c n => match x with
    | .c m => if n = 0 then none else some { sv := .s (.int .i64 (.c (m.tmod n))) }
    | _ => none
  | _, _ => none

/-- A quotient of constants. -/
def aQuo (k : IntKind) (x y : E) : Option Out :=
  match x, y with
  | .c m, .c n => if n = 0 then none else some { sv := .s (.int k (.c (k.wrap (m.tdiv n)))) }
  | _, _ => none

def aBin (P : Program) (V : View) (op : BinOp) (t : TypeId) (x y : Operand) : Option Out :=
  match V.v x, V.v y with
  | some (.s (.int k ex)), some (.s (.int k' ey)) =>
    match op with
    | .shl | .shr => aShift V op k k' ex ey
    | .rem => if k = k' then aRem V k ex ey else none
    | .quo => if k = k' then aQuo k ex ey else none
    | _ => if k = k' then aIntC V op k ex ey else none
  | some (.s (.bool ex)), some (.s (.bool ey)) =>
    match P.underlying t, op with
    | some .bool, .eql => some { sv := .s (.bool (.v V.nv)), ins := [(.bool, .beq ex ey)] }
    | _, _ => none
  | some (.agg xs), some (.agg ys) =>
    match P.underlying t, words V xs, words V ys, op with
    | some (.array n t'), some es, some fs, .eql =>
      match P.underlying t', sizeB P t' with
      | some (.int .u64), some 1 =>
        if es.length = n ∧ fs.length = n ∧ P.eqGuardType P.depth t = false then
          some { sv := .s (.bool (.v V.nv)), ins := [(.bool, .eqs es fs)] } else none
      | _, _ => none
    | _, _, _, _ => none
  | _, _ => none

def aUn (V : View) (op : UnOp) (x : Operand) : Option Out :=
  match op, V.v x with
  | .not, some (.s (.bool e)) => match e with
    | .c n => some { sv := .s (.bool (.c (b2i (n == 0)))) }
    | _ => some { sv := .s (.bool (.v V.nv)), ins := [(.bool, .not e)] }
  | .neg, some (.s (.int k e)) => if kindOK k then some { sv := .s (.int k (.v V.nv)), ins := [(.i k, .neg k e)] } else none
  | .xor, some (.s (.int k e)) => if kindOK k then some { sv := .s (.int k (.v V.nv)), ins := [(.i k, .inv k e)] } else none
  | _, _ => none

def aCnv (P : Program) (V : View) (src dst : TypeId) (x : Operand) : Option Out :=
  match V.v x with
  | some (.s (.int _ e)) => match P.underlying src, P.underlying dst with
    | some _, some (.int k) => if kindOK k then
        match e with
        | .c n => some { sv := .s (.int k (.c (k.wrap n))) }
        | _ => some { sv := .s (.int k (.v V.nv)), ins := [(.i k, .cnv k e)] }
      else none
    | _, _ => none
  | _ => none

def aExt (V : View) (x : Operand) (i : Nat) : Option Out :=
  match V.v x with
  | some (.tup xs) => (xs[i]?).map fun s => { sv := .s s }
  | _ => none

def aIdx (P : Program) (V : View) (t : TypeId) (x ix : Operand) : Option Out :=
  match V.int ix with
  | some (_, .c i) => match P.underlying t, V.v x with
    | some (.array len t'), some (.s (.ptr r o)) => match sizeB P t' with
      | some sz => if 0 ≤ i ∧ i < len then some { sv := .s (.ptr r (o + i.toNat * sz)) } else none
      | none => none
    | some (.slice t'), some (.s (.slc r o len _)) => match sizeB P t' with
      | some sz => if 0 ≤ i ∧ i < len then some { sv := .s (.ptr r (o + i.toNat * sz)) } else none
      | none => none
    | _, _ => none
  | _ => none

/-- An array's place, where the array is a value. -/
def aIdv (P : Program) (V : View) (t : TypeId) (x ix : Operand) : Option Out :=
  match V.int ix with
  | some (_, .c i) => match P.underlying t, V.v x with
    | some (.array len t'), some (.agg xs) => match sizeB P t', isAggB P t' with
      | some 1, some false => if 0 ≤ i ∧ i < len then (xs[i.toNat]?).map fun s => { sv := .s s } else none
      | _, _ => none
    | _, _ => none
  | _ => none

def aSlice (P : Program) (V : View) (t : TypeId) (x : Operand) : Option Out :=
  match P.underlying t, V.v x with
  | some (.array n t'), some (.s (.ptr r o)) => match sizeB P t' with
    | some _ => some { sv := .s (.slc r o n n) }
    | none => none
  | _, _ => none

def aMake (P : Program) (V : View) (t : TypeId) (l c : Operand) : Option Out :=
  match P.underlying t, V.int l, V.int c with
  | some (.slice t'), some (.i64, .c n), some (.i64, .c m) => match P.info? t', zeroCells P t' with
    | some i, some [z] =>
      if n = m ∧ 0 < n ∧ n ≤ 1000 ∧ i.size = 1 ∧ i.bytes ≤ 8 then
        some { sv := .s (.slc V.nr 0 n.toNat n.toNat), fr := some (List.replicate n.toNat z) } else none
    | _, _ => none
  | _, _, _ => none

def onesAt (V : View) : List (Nat × Operand) → Option (List (Nat × S))
  | [] => some []
  | (i, x) :: rest => match V.v x with
    | some (.s s) => if s.plain then (onesAt V rest).map ((i, s) :: ·) else none
    | _ => none

def fillS (cs : List S) : List (Nat × S) → List S
  | [] => cs
  | (i, s) :: rest => fillS (cs.set i s) rest

def aBuild (P : Program) (V : View) (t : TypeId) (parts : Array (Nat × Operand)) : Option Out :=
  match P.underlying t, zeroCells P t with
  | some (.array _ t'), some zs => match sizeB P t', onesAt V parts.toList with
    | some 1, some ps => if ps.all fun p => p.1 < zs.length then some { sv := .agg (fillS zs ps) } else none
    | _, _ => none
  | _, _ => none

def aBuildSlice (P : Program) (V : View) (t : TypeId) (len : Nat) (parts : Array (Nat × Operand)) : Option Out :=
  match P.underlying t with
  | some (.slice t') => match sizeB P t', zeroCells P t', onesAt V parts.toList with
    | some 1, some [z], some ps =>
      if 0 < len ∧ len ≤ 1000 ∧ ps.all fun p => p.1 < len then
        some { sv := .s (.slc V.nr 0 len len), fr := some (fillS (List.replicate len z) ps) } else none
    | _, _, _ => none
  | _ => none

def aLen (P : Program) (V : View) (ats : Array TypeId) (as : Array Operand) : Option Out :=
  match ats.toList, as.toList with
  | [t], [x] => match P.underlying t, V.v x with
    | some (.slice _), some (.s (.slc _ _ len _)) => some { sv := .s (.int .i64 (.c len)) }
    | _, _ => none
  | _, _ => none

def aMaxMin (V : View) (mx : Bool) (as : Array Operand) : Option Out :=
  match as.toList with
  | [x, y] => match V.int x, V.int y with
    | some (k, ex), some (k', ey) => if k = k' ∧ kindOK k ∧ V.kdE ex (.i k) ∧ V.kdE ey (.i k) then
        some { sv := .s (.int k (.v V.nv)), ins := [(.i k, if mx then .max ex ey else .min ex ey)] } else none
    | _, _ => none
  | _ => none

/-- An argument, taken apart: its words, where it lies. -/
def aArg (V : View) (k : AK) (x : Operand) : Option (List E × Option (Nat × Nat)) :=
  match k, V.v x with
  | .sc (.i k), some (.s (.int k' e)) => if k = k' ∧ V.kdE e (.i k) then some ([e], none) else none
  | .sc .bit, some (.s (.int .u64 e)) => if V.kdE e .bit then some ([e], none) else none
  | .sc .bool, some (.s (.bool e)) => if V.kdE e .bool then some ([e], none) else none
  | .cn m, some (.s (.int .i64 (.c n))) => if n = m ∧ (K.i .i64).okB m then some ([.c n], none) else none
  | .ptr n, some (.s (.ptr r o)) => match V.rd r with
    | some cs => match window cs o n with
      | some xs => (words V xs).map fun es => (es, some (r, o))
      | none => none
    | none => none
  | .slc n, some (.s (.slc r o len cap)) => if len = n ∧ cap = n then match V.rd r with
    | some cs => match window cs o n with
      | some xs => (words V xs).map fun es => (es, some (r, o))
      | none => none
    | none => none else none
  | .agg n, some (.agg xs) => if xs.length = n then (words V xs).map fun es => (es, none) else none
  | _, _ => none

def aArgs (V : View) : List AK → List Operand → Option (List (List E × Option (Nat × Nat)))
  | [], [] => some []
  | k :: ks, x :: xs => match aArg V k x, aArgs V ks xs with
    | some a, some as => some (a :: as)
    | _, _ => none
  | _, _ => none

/-- The results as values: from variable i on. -/
def aRes (nr : Nat) (as : List (List E × Option (Nat × Nat))) : List RK → Nat → Option (List SV)
  | [], _ => some []
  | .sc k :: rs, i => (aRes nr as rs (i + 1)).map (SV.s (match k with | .i k => S.int k (.v i) | .bit => S.int .u64 (.v i) | .bool => S.bool (.v i)) :: ·)
  | .arg j :: rs, i => match (as[j]?).bind (·.2) with
    | some (r, o) => (aRes nr as rs i).map (SV.s (.ptr r o) :: ·)
    | none => none
  | .slc n :: rs, i => (aRes nr as rs (i + n)).map (SV.s (.slc nr 0 n n) :: ·)
  | .agg n :: rs, i => (aRes nr as rs (i + n)).map (SV.agg ((List.range' i n).map fun j => .int .u64 (.v j)) :: ·)

def aFresh : List RK → Nat → Option (List S)
  | [], _ => none
  | .sc _ :: rs, i => aFresh rs (i + 1)
  | .arg _ :: rs, i => aFresh rs i
  | .slc n :: _, i => some ((List.range' i n).map fun j => .int .u64 (.v j))
  | .agg n :: rs, i => aFresh rs (i + n)

def countSlc : List RK → Nat
  | [] => 0
  | .slc _ :: rs => countSlc rs + 1
  | _ :: rs => countSlc rs

def oneTup : List SV → Option SV
  | [v] => some v
  | vs => (vs.mapM fun | SV.s x => some x | _ => none).map SV.tup

/-- The other argument that lies where the written one lies, if there is one. -/
def alOf (i r o : Nat) (as : List (List E × Option (Nat × Nat))) : Option Nat :=
  (as.zipIdx.find? fun (a, j) => j != i && a.2 == some (r, o)).map (·.2)

def alB (s : Summ) (i r o n : Nat) (as : List (List E × Option (Nat × Nat))) (al : Option Nat) : Bool :=
  as.zipIdx.all fun (a, j) => j == i || match a.2 with
    | none => true
    | some (r', o') => if al == some j then r' == r && o' == o && s.args[j]? == s.args[i]? else r' != r || decide (o' + a.1.length ≤ o) || decide (o + n ≤ o')

def aCallS (cx : Cx) (V : View) (f : Nat) (s : Summ) (xs : List Operand) : Option Out :=
  match aArgs V s.args xs with
  | none => none
  | some as =>
    let es := as.flatMap (·.1)
    let outs := s.outKinds
    let ins := (outs.zipIdx).map fun (k, j) => (k, I.fn f es j)
    let tch := as.filterMap fun a => a.2.map (·.1)
    match aRes V.nr as s.res (V.nv + wrLen s) with
    | none => none
    | some rs => match oneTup rs with
      | none => none
      | some sv =>
        if countSlc s.res ≤ 1 then
          match s.wr with
          | none => some { sv := sv, ins := ins, fr := aFresh s.res (V.nv + wrLen s), tch := tch }
          | some i => match s.args[i]?, (as[i]?).bind (·.2) with
            | some (.ptr n), some (r, o) =>
              if cx.writable r ∧ alB s i r o n as (alOf i r o as) then
                some { sv := sv, ins := ins, wr := some (r, o, (List.range' V.nv n).map fun j => .int .u64 (.v j)), fr := aFresh s.res (V.nv + wrLen s), tch := tch }
              else none
            | _, _ => none
        else none

def findS : List (Nat × Summ) → Nat → Option Summ
  | [], _ => none
  | (g, s) :: l, f => if g == f then some s else findS l f

def absOp (cx : Cx) (P : Program) (V : View) : Op → Option Out
  | .move x | .assign x => aMove V x
  | .pick c x y => aPick V c x y
  | .alloc t => aAlloc P V t
  | .box _ x => aBox V x
  | .load t x => aLoad P V t x
  | .store t x y => aStore cx P V t x y
  | .nilCheck x => aNil V x
  | .binOp op t x y _ => aBin P V op t x y
  | .unOp op _ x => aUn V op x
  | .convert src dst x => aCnv P V src dst x
  | .extract x i => aExt V x i
  | .indexAddr t x ix => aIdx P V t x ix
  | .slice t x none none none => aSlice P V t x
  | .makeSlice t l c => aMake P V t l c
  | .build t ps => aBuild P V t ps
  | .buildSlice t n ps => aBuildSlice P V t n ps
  | .call { callee := .builtin .len, args := as, argTypes := ats } => aLen P V ats as
  | .call { callee := .builtin .max, args := as, argTypes := _ } => aMaxMin V true as
  | .call { callee := .builtin .min, args := as, argTypes := _ } => aMaxMin V false as
  | .call { callee := .value (.func f), args := as, argTypes := _ } => match findS cx.tbl f with
    | some s => aCallS cx V f s as.toList
    | none => none
  | .index t x ix => aIdv P V t x ix
  | _ => none

end Go.Sym
