/-
  No cell of these rows narrows 'for every input' (looked for: loops, veiled, ifaces, maps, wideKeys, modest, calm, conditions, laid).
  DERIVED. THE GIVEN ROWS OF THIS SEAT. 6 by the template 'for every input the law returns true; each argument reads behind the call as it read before'; 0 by the template 'total and deterministic' (their statements: YtebocdegfofhdaaTotals.lean).
  GIVEN WITH THE SEED: the statements are not yours to turn. If you find one false, say at which input.
  Laid BY PROGRAM, IN A SANDBOX (cutbox-rows.mjs): the forced cells as the released guide's own fill.sh prints them over the translation dc944baa790ebe92… (all of the seat's roots in one cut). By AI agents, Wed Nov 11 2026. No macro, syntax, notation, axiom, sorry.
-/
import Derived.Test.YtebocdegfofhdaaChecked
import GoSem.Claim
import GoSem.ClaimJoined
import GoSem.ClaimMapViews
import Derived.JoinedTies
import Derived.KernelRfl
namespace Go.Proofs.Ytebocdegfofhdaa
/- THE CELL 'sum', in the pinned program and in every row, IS THE sha256 OF THE DUMP (.gsa) THAT YtebocdegfofhdaaProg.lean LOADS. Nothing in Lean hashes anything: it is a label: what it is worth is what the hold of that sum in a sandbox is worth. -/
noncomputable def Try.pinned : Pinned := { name := "ytebocdegfofhdaa", sum := "dc944baa790ebe92cd15475837eeb147e3690889efcc2406680ef1ffe96eb9f3", checked := Try.checked }
namespace Rows
def none {H : Type} : Left H := { results := [], args := [] }

/-- 'laws.FnNrIsZero': WHATEVER THE INPUT: true; the input reads as it did. -/
def fnNrIsZeroSpec : ChangeSpec := { name := "fnNrIsZero", fn := fun _ => fun
  | [d] => { results := [.lit (.bool true)], args := [d] }
  | _ => none }
def fnNrIsZeroRow : OpenClaim := { program := "ytebocdegfofhdaa", sum := "dc944baa790ebe92cd15475837eeb147e3690889efcc2406680ef1ffe96eb9f3", func := "loop.example/pub-g03342/laws.FnNrIsZero", spec := "fnNrIsZero", apart := false }
def FnNrIsZeroSaid : Prop := fnNrIsZeroRow.holds Try.pinned (OpenSpec.ofChange fnNrIsZeroSpec)

/-- ITS FALSE NEIGHBOUR: 'it returns false'. Refute it at one input. -/
def fnNrIsZeroWrong : ChangeSpec := { name := "fnNrIsZero", fn := fun _ => fun
  | [d] => { results := [.lit (.bool false)], args := [d] }
  | _ => none }
def FnNrIsZeroWrongFalsely : Prop := fnNrIsZeroRow.holds Try.pinned (OpenSpec.ofChange fnNrIsZeroWrong)

/-- 'laws.FnNrNeg': WHATEVER THE INPUT: true; the input reads as it did. -/
def fnNrNegSpec : ChangeSpec := { name := "fnNrNeg", fn := fun _ => fun
  | [d] => { results := [.lit (.bool true)], args := [d] }
  | _ => none }
def fnNrNegRow : OpenClaim := { program := "ytebocdegfofhdaa", sum := "dc944baa790ebe92cd15475837eeb147e3690889efcc2406680ef1ffe96eb9f3", func := "loop.example/pub-g03342/laws.FnNrNeg", spec := "fnNrNeg", inPlace := ["math/bits.Sub64"], apart := false }
def FnNrNegSaid : Prop := fnNrNegRow.holds Try.pinned (OpenSpec.ofChange fnNrNegSpec)

/-- ITS FALSE NEIGHBOUR: 'it returns false'. Refute it at one input. -/
def fnNrNegWrong : ChangeSpec := { name := "fnNrNeg", fn := fun _ => fun
  | [d] => { results := [.lit (.bool false)], args := [d] }
  | _ => none }
def FnNrNegWrongFalsely : Prop := fnNrNegRow.holds Try.pinned (OpenSpec.ofChange fnNrNegWrong)

/-- 'laws.FnNrAddTurned': WHATEVER THE INPUT: true; the input reads as it did. -/
def fnNrAddTurnedSpec : ChangeSpec := { name := "fnNrAddTurned", fn := fun _ => fun
  | [d1, d2] => { results := [.lit (.bool true)], args := [d1, d2] }
  | _ => none }
def fnNrAddTurnedRow : OpenClaim := { program := "ytebocdegfofhdaa", sum := "dc944baa790ebe92cd15475837eeb147e3690889efcc2406680ef1ffe96eb9f3", func := "loop.example/pub-g03342/laws.FnNrAddTurned", spec := "fnNrAddTurned", inPlace := ["math/bits.Add64", "math/bits.Sub64"], apart := false }
def FnNrAddTurnedSaid : Prop := fnNrAddTurnedRow.holds Try.pinned (OpenSpec.ofChange fnNrAddTurnedSpec)

/-- ITS FALSE NEIGHBOUR: 'it returns false'. Refute it at one input. -/
def fnNrAddTurnedWrong : ChangeSpec := { name := "fnNrAddTurned", fn := fun _ => fun
  | [d1, d2] => { results := [.lit (.bool false)], args := [d1, d2] }
  | _ => none }
def FnNrAddTurnedWrongFalsely : Prop := fnNrAddTurnedRow.holds Try.pinned (OpenSpec.ofChange fnNrAddTurnedWrong)

/-- 'laws.FnNrMulBy5': WHATEVER THE INPUT: true; the input reads as it did. -/
def fnNrMulBy5Spec : ChangeSpec := { name := "fnNrMulBy5", fn := fun _ => fun
  | [d] => { results := [.lit (.bool true)], args := [d] }
  | _ => none }
def fnNrMulBy5Row : OpenClaim := { program := "ytebocdegfofhdaa", sum := "dc944baa790ebe92cd15475837eeb147e3690889efcc2406680ef1ffe96eb9f3", func := "loop.example/pub-g03342/laws.FnNrMulBy5", spec := "fnNrMulBy5", inPlace := ["math/bits.Add64", "math/bits.Sub64"], apart := false }
def FnNrMulBy5Said : Prop := fnNrMulBy5Row.holds Try.pinned (OpenSpec.ofChange fnNrMulBy5Spec)

/-- ITS FALSE NEIGHBOUR: 'it returns false'. Refute it at one input. -/
def fnNrMulBy5Wrong : ChangeSpec := { name := "fnNrMulBy5", fn := fun _ => fun
  | [d] => { results := [.lit (.bool false)], args := [d] }
  | _ => none }
def FnNrMulBy5WrongFalsely : Prop := fnNrMulBy5Row.holds Try.pinned (OpenSpec.ofChange fnNrMulBy5Wrong)

/-- 'laws.FnNrVecAdd': WHATEVER THE INPUT: true; the input reads as it did. -/
def fnNrVecAddSpec : ChangeSpec := { name := "fnNrVecAdd", fn := fun _ => fun
  | [d1, d2] => { results := [.lit (.bool true)], args := [d1, d2] }
  | _ => none }
def fnNrVecAddRow : OpenClaim := { program := "ytebocdegfofhdaa", sum := "dc944baa790ebe92cd15475837eeb147e3690889efcc2406680ef1ffe96eb9f3", func := "loop.example/pub-g03342/laws.FnNrVecAdd", spec := "fnNrVecAdd", inPlace := ["math/bits.Add64", "math/bits.Sub64"], apart := false }
def FnNrVecAddSaid : Prop := fnNrVecAddRow.holds Try.pinned (OpenSpec.ofChange fnNrVecAddSpec)

/-- ITS FALSE NEIGHBOUR: 'it returns false'. Refute it at one input. -/
def fnNrVecAddWrong : ChangeSpec := { name := "fnNrVecAdd", fn := fun _ => fun
  | [d1, d2] => { results := [.lit (.bool false)], args := [d1, d2] }
  | _ => none }
def FnNrVecAddWrongFalsely : Prop := fnNrVecAddRow.holds Try.pinned (OpenSpec.ofChange fnNrVecAddWrong)

/-- 'laws.FnNrNegAdd': WHATEVER THE INPUT: true; the input reads as it did. -/
def fnNrNegAddSpec : ChangeSpec := { name := "fnNrNegAdd", fn := fun _ => fun
  | [d] => { results := [.lit (.bool true)], args := [d] }
  | _ => none }
def fnNrNegAddRow : OpenClaim := { program := "ytebocdegfofhdaa", sum := "dc944baa790ebe92cd15475837eeb147e3690889efcc2406680ef1ffe96eb9f3", func := "loop.example/pub-g03342/laws.FnNrNegAdd", spec := "fnNrNegAdd", inPlace := ["math/bits.Sub64", "math/bits.Add64"], apart := false }
def FnNrNegAddSaid : Prop := fnNrNegAddRow.holds Try.pinned (OpenSpec.ofChange fnNrNegAddSpec)

/-- ITS FALSE NEIGHBOUR: 'it returns false'. Refute it at one input. -/
def fnNrNegAddWrong : ChangeSpec := { name := "fnNrNegAdd", fn := fun _ => fun
  | [d] => { results := [.lit (.bool false)], args := [d] }
  | _ => none }
def FnNrNegAddWrongFalsely : Prop := fnNrNegAddRow.holds Try.pinned (OpenSpec.ofChange fnNrNegAddWrong)

/- THE SECOND FORM. 'bulk': how many values and letters a reading holds, each counted each time it is reached (what is shared counts as often as it is met; a slice's spare places count too). A statement '..UptoSaid' is the law's where the arguments, and the package variables that the reading takes, are together of bulk at most 1048576: NARROWER than '..Said'. Prove '..Said' where nothing that the law and all that it calls make is longer than what came in: it says more and counts as full. Else prove '..UptoSaid'. A law counts once. -/
mutual
def uptoBulk {H : Type} : DataW H → Nat
  | .lit (.string bytes) => bytes.length + 1
  | .lit _ => 1
  | .nil => 1
  | .ptr d => uptoBulk d + 1
  | .slice elems spare => uptoBulkAll elems + uptoBulkAll spare + 1
  | .agg parts => uptoBulkAll parts + 1
  | .iface _ d => uptoBulk d + 1
  | .map entries => uptoBulkEntries entries + 1
  | .held _ => 1
def uptoBulkAll {H : Type} : List (DataW H) → Nat
  | [] => 0
  | d :: r => uptoBulk d + uptoBulkAll r
def uptoBulkEntries {H : Type} : List (Lit × DataW H) → Nat
  | [] => 0
  | x :: r => uptoBulkEntry x + uptoBulkEntries r
def uptoBulkEntry {H : Type} : Lit × DataW H → Nat
  | (.string bytes, d) => bytes.length + uptoBulk d + 1
  | (_, d) => uptoBulk d + 1
 end
def uptoSmall : (H : Type) → List (DataW H) → Bool := fun _ ds => decide (uptoBulkAll ds ≤ 1048576)
def OpenSpec.upto (s : _root_.Go.ChangeSpec) : _root_.Go.OpenSpec := { _root_.Go.OpenSpec.ofChange s with cond := some uptoSmall }

/-- 'laws.FnNrIsZero', WHERE WHAT IT READS IS OF BULK AT MOST 1048576: true; the input reads as it did. -/
def fnNrIsZeroUptoRow : OpenClaim := { program := "ytebocdegfofhdaa", sum := "dc944baa790ebe92cd15475837eeb147e3690889efcc2406680ef1ffe96eb9f3", func := "loop.example/pub-g03342/laws.FnNrIsZero", spec := "fnNrIsZero", apart := false, narrowed := true }
def FnNrIsZeroUptoSaid : Prop := fnNrIsZeroUptoRow.holds Try.pinned (OpenSpec.upto fnNrIsZeroSpec)

/-- 'laws.FnNrNeg', WHERE WHAT IT READS IS OF BULK AT MOST 1048576: true; the input reads as it did. -/
def fnNrNegUptoRow : OpenClaim := { program := "ytebocdegfofhdaa", sum := "dc944baa790ebe92cd15475837eeb147e3690889efcc2406680ef1ffe96eb9f3", func := "loop.example/pub-g03342/laws.FnNrNeg", spec := "fnNrNeg", inPlace := ["math/bits.Sub64"], apart := false, narrowed := true }
def FnNrNegUptoSaid : Prop := fnNrNegUptoRow.holds Try.pinned (OpenSpec.upto fnNrNegSpec)

/-- 'laws.FnNrAddTurned', WHERE WHAT IT READS IS OF BULK AT MOST 1048576: true; the input reads as it did. -/
def fnNrAddTurnedUptoRow : OpenClaim := { program := "ytebocdegfofhdaa", sum := "dc944baa790ebe92cd15475837eeb147e3690889efcc2406680ef1ffe96eb9f3", func := "loop.example/pub-g03342/laws.FnNrAddTurned", spec := "fnNrAddTurned", inPlace := ["math/bits.Add64", "math/bits.Sub64"], apart := false, narrowed := true }
def FnNrAddTurnedUptoSaid : Prop := fnNrAddTurnedUptoRow.holds Try.pinned (OpenSpec.upto fnNrAddTurnedSpec)

/-- 'laws.FnNrMulBy5', WHERE WHAT IT READS IS OF BULK AT MOST 1048576: true; the input reads as it did. -/
def fnNrMulBy5UptoRow : OpenClaim := { program := "ytebocdegfofhdaa", sum := "dc944baa790ebe92cd15475837eeb147e3690889efcc2406680ef1ffe96eb9f3", func := "loop.example/pub-g03342/laws.FnNrMulBy5", spec := "fnNrMulBy5", inPlace := ["math/bits.Add64", "math/bits.Sub64"], apart := false, narrowed := true }
def FnNrMulBy5UptoSaid : Prop := fnNrMulBy5UptoRow.holds Try.pinned (OpenSpec.upto fnNrMulBy5Spec)

/-- 'laws.FnNrVecAdd', WHERE WHAT IT READS IS OF BULK AT MOST 1048576: true; the input reads as it did. -/
def fnNrVecAddUptoRow : OpenClaim := { program := "ytebocdegfofhdaa", sum := "dc944baa790ebe92cd15475837eeb147e3690889efcc2406680ef1ffe96eb9f3", func := "loop.example/pub-g03342/laws.FnNrVecAdd", spec := "fnNrVecAdd", inPlace := ["math/bits.Add64", "math/bits.Sub64"], apart := false, narrowed := true }
def FnNrVecAddUptoSaid : Prop := fnNrVecAddUptoRow.holds Try.pinned (OpenSpec.upto fnNrVecAddSpec)

/-- 'laws.FnNrNegAdd', WHERE WHAT IT READS IS OF BULK AT MOST 1048576: true; the input reads as it did. -/
def fnNrNegAddUptoRow : OpenClaim := { program := "ytebocdegfofhdaa", sum := "dc944baa790ebe92cd15475837eeb147e3690889efcc2406680ef1ffe96eb9f3", func := "loop.example/pub-g03342/laws.FnNrNegAdd", spec := "fnNrNegAdd", inPlace := ["math/bits.Sub64", "math/bits.Add64"], apart := false, narrowed := true }
def FnNrNegAddUptoSaid : Prop := fnNrNegAddUptoRow.holds Try.pinned (OpenSpec.upto fnNrNegAddSpec)

end Rows
end Go.Proofs.Ytebocdegfofhdaa
