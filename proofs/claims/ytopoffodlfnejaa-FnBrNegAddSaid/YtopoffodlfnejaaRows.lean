/-
  No cell of these rows narrows 'for every input' (looked for: loops, veiled, ifaces, maps, wideKeys, modest, calm, conditions, laid).
  DERIVED. THE GIVEN ROWS OF THIS SEAT. 6 by the template 'for every input the law returns true; each argument reads behind the call as it read before'; 0 by the template 'total and deterministic' (their statements: YtopoffodlfnejaaTotals.lean).
  GIVEN WITH THE SEED: the statements are not yours to turn. If you find one false, say at which input.
  Laid BY PROGRAM, IN A SANDBOX (cutbox-rows.mjs): the forced cells as the released guide's own fill.sh prints them over the translation dd805b1ee20774cc… (all of the seat's roots in one cut). By AI agents, Wed Nov 11 2026. No macro, syntax, notation, axiom, sorry.
-/
import Derived.Test.YtopoffodlfnejaaChecked
import GoSem.Claim
import GoSem.ClaimJoined
import GoSem.ClaimMapViews
import Derived.JoinedTies
import Derived.KernelRfl
namespace Go.Proofs.Ytopoffodlfnejaa
/- THE CELL 'sum', in the pinned program and in every row, IS THE sha256 OF THE DUMP (.gsa) THAT YtopoffodlfnejaaProg.lean LOADS. Nothing in Lean hashes anything: it is a label: what it is worth is what the hold of that sum in a sandbox is worth. -/
noncomputable def Try.pinned : Pinned := { name := "ytopoffodlfnejaa", sum := "dd805b1ee20774cc89e42b882736fbc5cbf80ab845bd1b6a783791fb1e566e1a", checked := Try.checked }
namespace Rows
def none {H : Type} : Left H := { results := [], args := [] }

/-- 'laws.FnBrIsZero': WHATEVER THE INPUT: true; the input reads as it did. -/
def fnBrIsZeroSpec : ChangeSpec := { name := "fnBrIsZero", fn := fun _ => fun
  | [d] => { results := [.lit (.bool true)], args := [d] }
  | _ => none }
def fnBrIsZeroRow : OpenClaim := { program := "ytopoffodlfnejaa", sum := "dd805b1ee20774cc89e42b882736fbc5cbf80ab845bd1b6a783791fb1e566e1a", func := "loop.example/pub-g03342/laws.FnBrIsZero", spec := "fnBrIsZero", apart := false }
def FnBrIsZeroSaid : Prop := fnBrIsZeroRow.holds Try.pinned (OpenSpec.ofChange fnBrIsZeroSpec)

/-- ITS FALSE NEIGHBOUR: 'it returns false'. Refute it at one input. -/
def fnBrIsZeroWrong : ChangeSpec := { name := "fnBrIsZero", fn := fun _ => fun
  | [d] => { results := [.lit (.bool false)], args := [d] }
  | _ => none }
def FnBrIsZeroWrongFalsely : Prop := fnBrIsZeroRow.holds Try.pinned (OpenSpec.ofChange fnBrIsZeroWrong)

/-- 'laws.FnBrNeg': WHATEVER THE INPUT: true; the input reads as it did. -/
def fnBrNegSpec : ChangeSpec := { name := "fnBrNeg", fn := fun _ => fun
  | [d] => { results := [.lit (.bool true)], args := [d] }
  | _ => none }
def fnBrNegRow : OpenClaim := { program := "ytopoffodlfnejaa", sum := "dd805b1ee20774cc89e42b882736fbc5cbf80ab845bd1b6a783791fb1e566e1a", func := "loop.example/pub-g03342/laws.FnBrNeg", spec := "fnBrNeg", inPlace := ["math/bits.Sub64"], apart := false }
def FnBrNegSaid : Prop := fnBrNegRow.holds Try.pinned (OpenSpec.ofChange fnBrNegSpec)

/-- ITS FALSE NEIGHBOUR: 'it returns false'. Refute it at one input. -/
def fnBrNegWrong : ChangeSpec := { name := "fnBrNeg", fn := fun _ => fun
  | [d] => { results := [.lit (.bool false)], args := [d] }
  | _ => none }
def FnBrNegWrongFalsely : Prop := fnBrNegRow.holds Try.pinned (OpenSpec.ofChange fnBrNegWrong)

/-- 'laws.FnBrAddTurned': WHATEVER THE INPUT: true; the input reads as it did. -/
def fnBrAddTurnedSpec : ChangeSpec := { name := "fnBrAddTurned", fn := fun _ => fun
  | [d1, d2] => { results := [.lit (.bool true)], args := [d1, d2] }
  | _ => none }
def fnBrAddTurnedRow : OpenClaim := { program := "ytopoffodlfnejaa", sum := "dd805b1ee20774cc89e42b882736fbc5cbf80ab845bd1b6a783791fb1e566e1a", func := "loop.example/pub-g03342/laws.FnBrAddTurned", spec := "fnBrAddTurned", inPlace := ["math/bits.Add64", "math/bits.Sub64"], apart := false }
def FnBrAddTurnedSaid : Prop := fnBrAddTurnedRow.holds Try.pinned (OpenSpec.ofChange fnBrAddTurnedSpec)

/-- ITS FALSE NEIGHBOUR: 'it returns false'. Refute it at one input. -/
def fnBrAddTurnedWrong : ChangeSpec := { name := "fnBrAddTurned", fn := fun _ => fun
  | [d1, d2] => { results := [.lit (.bool false)], args := [d1, d2] }
  | _ => none }
def FnBrAddTurnedWrongFalsely : Prop := fnBrAddTurnedRow.holds Try.pinned (OpenSpec.ofChange fnBrAddTurnedWrong)

/-- 'laws.FnBrMulBy5': WHATEVER THE INPUT: true; the input reads as it did. -/
def fnBrMulBy5Spec : ChangeSpec := { name := "fnBrMulBy5", fn := fun _ => fun
  | [d] => { results := [.lit (.bool true)], args := [d] }
  | _ => none }
def fnBrMulBy5Row : OpenClaim := { program := "ytopoffodlfnejaa", sum := "dd805b1ee20774cc89e42b882736fbc5cbf80ab845bd1b6a783791fb1e566e1a", func := "loop.example/pub-g03342/laws.FnBrMulBy5", spec := "fnBrMulBy5", inPlace := ["math/bits.Add64", "math/bits.Sub64"], apart := false }
def FnBrMulBy5Said : Prop := fnBrMulBy5Row.holds Try.pinned (OpenSpec.ofChange fnBrMulBy5Spec)

/-- ITS FALSE NEIGHBOUR: 'it returns false'. Refute it at one input. -/
def fnBrMulBy5Wrong : ChangeSpec := { name := "fnBrMulBy5", fn := fun _ => fun
  | [d] => { results := [.lit (.bool false)], args := [d] }
  | _ => none }
def FnBrMulBy5WrongFalsely : Prop := fnBrMulBy5Row.holds Try.pinned (OpenSpec.ofChange fnBrMulBy5Wrong)

/-- 'laws.FnBrVecAdd': WHATEVER THE INPUT: true; the input reads as it did. -/
def fnBrVecAddSpec : ChangeSpec := { name := "fnBrVecAdd", fn := fun _ => fun
  | [d1, d2] => { results := [.lit (.bool true)], args := [d1, d2] }
  | _ => none }
def fnBrVecAddRow : OpenClaim := { program := "ytopoffodlfnejaa", sum := "dd805b1ee20774cc89e42b882736fbc5cbf80ab845bd1b6a783791fb1e566e1a", func := "loop.example/pub-g03342/laws.FnBrVecAdd", spec := "fnBrVecAdd", inPlace := ["math/bits.Add64", "math/bits.Sub64"], apart := false }
def FnBrVecAddSaid : Prop := fnBrVecAddRow.holds Try.pinned (OpenSpec.ofChange fnBrVecAddSpec)

/-- ITS FALSE NEIGHBOUR: 'it returns false'. Refute it at one input. -/
def fnBrVecAddWrong : ChangeSpec := { name := "fnBrVecAdd", fn := fun _ => fun
  | [d1, d2] => { results := [.lit (.bool false)], args := [d1, d2] }
  | _ => none }
def FnBrVecAddWrongFalsely : Prop := fnBrVecAddRow.holds Try.pinned (OpenSpec.ofChange fnBrVecAddWrong)

/-- 'laws.FnBrNegAdd': WHATEVER THE INPUT: true; the input reads as it did. -/
def fnBrNegAddSpec : ChangeSpec := { name := "fnBrNegAdd", fn := fun _ => fun
  | [d] => { results := [.lit (.bool true)], args := [d] }
  | _ => none }
def fnBrNegAddRow : OpenClaim := { program := "ytopoffodlfnejaa", sum := "dd805b1ee20774cc89e42b882736fbc5cbf80ab845bd1b6a783791fb1e566e1a", func := "loop.example/pub-g03342/laws.FnBrNegAdd", spec := "fnBrNegAdd", inPlace := ["math/bits.Sub64", "math/bits.Add64"], apart := false }
def FnBrNegAddSaid : Prop := fnBrNegAddRow.holds Try.pinned (OpenSpec.ofChange fnBrNegAddSpec)

/-- ITS FALSE NEIGHBOUR: 'it returns false'. Refute it at one input. -/
def fnBrNegAddWrong : ChangeSpec := { name := "fnBrNegAdd", fn := fun _ => fun
  | [d] => { results := [.lit (.bool false)], args := [d] }
  | _ => none }
def FnBrNegAddWrongFalsely : Prop := fnBrNegAddRow.holds Try.pinned (OpenSpec.ofChange fnBrNegAddWrong)

/- THE SECOND FORM. 'bulk': how many values and letters a reading holds, each counted each time it is reached (what is shared counts as often as it is met; a slice's spare places count too). A statement '..UptoSaid' is the law's where the arguments, and the package variables that the reading takes, are together of bulk at most 1048576: NARROWER than '..Said'. Prove '..Said' where nothing that the law and all that it calls make is longer than what came in: it says more and counts as full. Else prove '..UptoSaid'. A law counts once. -/
mutual
def uptoBulk {H : Type} : DataW H → Nat
  | .lit (.string bytes) => bytes.length + 1
  | .lit _ => 1
  | .nil => 1
  | .ptr d => uptoBulk d + 1
  | .slice elems spare => uptoBulkAll elems + uptoBulkAll spare + 1
  | .agg parts => uptoBulkAll parts + 1
  | .iface _ d => uptoBulk d + 1
  | .map entries => uptoBulkEntries entries + 1
  | .held _ => 1
def uptoBulkAll {H : Type} : List (DataW H) → Nat
  | [] => 0
  | d :: r => uptoBulk d + uptoBulkAll r
def uptoBulkEntries {H : Type} : List (Lit × DataW H) → Nat
  | [] => 0
  | x :: r => uptoBulkEntry x + uptoBulkEntries r
def uptoBulkEntry {H : Type} : Lit × DataW H → Nat
  | (.string bytes, d) => bytes.length + uptoBulk d + 1
  | (_, d) => uptoBulk d + 1
 end
def uptoSmall : (H : Type) → List (DataW H) → Bool := fun _ ds => decide (uptoBulkAll ds ≤ 1048576)
def OpenSpec.upto (s : _root_.Go.ChangeSpec) : _root_.Go.OpenSpec := { _root_.Go.OpenSpec.ofChange s with cond := some uptoSmall }

/-- 'laws.FnBrIsZero', WHERE WHAT IT READS IS OF BULK AT MOST 1048576: true; the input reads as it did. -/
def fnBrIsZeroUptoRow : OpenClaim := { program := "ytopoffodlfnejaa", sum := "dd805b1ee20774cc89e42b882736fbc5cbf80ab845bd1b6a783791fb1e566e1a", func := "loop.example/pub-g03342/laws.FnBrIsZero", spec := "fnBrIsZero", apart := false, narrowed := true }
def FnBrIsZeroUptoSaid : Prop := fnBrIsZeroUptoRow.holds Try.pinned (OpenSpec.upto fnBrIsZeroSpec)

/-- 'laws.FnBrNeg', WHERE WHAT IT READS IS OF BULK AT MOST 1048576: true; the input reads as it did. -/
def fnBrNegUptoRow : OpenClaim := { program := "ytopoffodlfnejaa", sum := "dd805b1ee20774cc89e42b882736fbc5cbf80ab845bd1b6a783791fb1e566e1a", func := "loop.example/pub-g03342/laws.FnBrNeg", spec := "fnBrNeg", inPlace := ["math/bits.Sub64"], apart := false, narrowed := true }
def FnBrNegUptoSaid : Prop := fnBrNegUptoRow.holds Try.pinned (OpenSpec.upto fnBrNegSpec)

/-- 'laws.FnBrAddTurned', WHERE WHAT IT READS IS OF BULK AT MOST 1048576: true; the input reads as it did. -/
def fnBrAddTurnedUptoRow : OpenClaim := { program := "ytopoffodlfnejaa", sum := "dd805b1ee20774cc89e42b882736fbc5cbf80ab845bd1b6a783791fb1e566e1a", func := "loop.example/pub-g03342/laws.FnBrAddTurned", spec := "fnBrAddTurned", inPlace := ["math/bits.Add64", "math/bits.Sub64"], apart := false, narrowed := true }
def FnBrAddTurnedUptoSaid : Prop := fnBrAddTurnedUptoRow.holds Try.pinned (OpenSpec.upto fnBrAddTurnedSpec)

/-- 'laws.FnBrMulBy5', WHERE WHAT IT READS IS OF BULK AT MOST 1048576: true; the input reads as it did. -/
def fnBrMulBy5UptoRow : OpenClaim := { program := "ytopoffodlfnejaa", sum := "dd805b1ee20774cc89e42b882736fbc5cbf80ab845bd1b6a783791fb1e566e1a", func := "loop.example/pub-g03342/laws.FnBrMulBy5", spec := "fnBrMulBy5", inPlace := ["math/bits.Add64", "math/bits.Sub64"], apart := false, narrowed := true }
def FnBrMulBy5UptoSaid : Prop := fnBrMulBy5UptoRow.holds Try.pinned (OpenSpec.upto fnBrMulBy5Spec)

/-- 'laws.FnBrVecAdd', WHERE WHAT IT READS IS OF BULK AT MOST 1048576: true; the input reads as it did. -/
def fnBrVecAddUptoRow : OpenClaim := { program := "ytopoffodlfnejaa", sum := "dd805b1ee20774cc89e42b882736fbc5cbf80ab845bd1b6a783791fb1e566e1a", func := "loop.example/pub-g03342/laws.FnBrVecAdd", spec := "fnBrVecAdd", inPlace := ["math/bits.Add64", "math/bits.Sub64"], apart := false, narrowed := true }
def FnBrVecAddUptoSaid : Prop := fnBrVecAddUptoRow.holds Try.pinned (OpenSpec.upto fnBrVecAddSpec)

/-- 'laws.FnBrNegAdd', WHERE WHAT IT READS IS OF BULK AT MOST 1048576: true; the input reads as it did. -/
def fnBrNegAddUptoRow : OpenClaim := { program := "ytopoffodlfnejaa", sum := "dd805b1ee20774cc89e42b882736fbc5cbf80ab845bd1b6a783791fb1e566e1a", func := "loop.example/pub-g03342/laws.FnBrNegAdd", spec := "fnBrNegAdd", inPlace := ["math/bits.Sub64", "math/bits.Add64"], apart := false, narrowed := true }
def FnBrNegAddUptoSaid : Prop := fnBrNegAddUptoRow.holds Try.pinned (OpenSpec.upto fnBrNegAddSpec)

end Rows
end Go.Proofs.Ytopoffodlfnejaa
