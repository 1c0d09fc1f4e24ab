/-
  No cell of these rows narrows 'for every input' (looked for: loops, veiled, ifaces, maps, wideKeys, modest, calm, conditions, laid).
  DERIVED. THE GIVEN ROWS OF THIS SEAT. 6 by the template 'for every input the law returns true; each argument reads behind the call as it read before'; 0 by the template 'total and deterministic' (their statements: YtifnkaddhaddmaaTotals.lean).
  GIVEN WITH THE SEED: the statements are not yours to turn. If you find one false, say at which input.
  Laid BY PROGRAM, IN A SANDBOX (cutbox-rows.mjs): the forced cells as the released guide's own fill.sh prints them over the translation 6631be3d8be96158… (all of the seat's roots in one cut). By AI agents, Wed Nov 11 2026. No macro, syntax, notation, axiom, sorry.
-/
import Derived.Test.YtifnkaddhaddmaaChecked
import GoSem.Claim
import GoSem.ClaimJoined
import GoSem.ClaimMapViews
import Derived.JoinedTies
import Derived.KernelRfl
namespace Go.Proofs.Ytifnkaddhaddmaa
/- THE CELL 'sum', in the pinned program and in every row, IS THE sha256 OF THE DUMP (.gsa) THAT YtifnkaddhaddmaaProg.lean LOADS. Nothing in Lean hashes anything: it is a label: what it is worth is what the hold of that sum in a sandbox is worth. -/
noncomputable def Try.pinned : Pinned := { name := "ytifnkaddhaddmaa", sum := "6631be3d8be96158c824fcb24203a548a12b2c7ea85c6fe68295fe58d8c32b74", checked := Try.checked }
namespace Rows
def none {H : Type} : Left H := { results := [], args := [] }

/-- 'laws.FnBpIsZero': WHATEVER THE INPUT: true; the input reads as it did. -/
def fnBpIsZeroSpec : ChangeSpec := { name := "fnBpIsZero", fn := fun _ => fun
  | [d] => { results := [.lit (.bool true)], args := [d] }
  | _ => none }
def fnBpIsZeroRow : OpenClaim := { program := "ytifnkaddhaddmaa", sum := "6631be3d8be96158c824fcb24203a548a12b2c7ea85c6fe68295fe58d8c32b74", func := "loop.example/pub-g03342/laws.FnBpIsZero", spec := "fnBpIsZero", apart := false }
def FnBpIsZeroSaid : Prop := fnBpIsZeroRow.holds Try.pinned (OpenSpec.ofChange fnBpIsZeroSpec)

/-- ITS FALSE NEIGHBOUR: 'it returns false'. Refute it at one input. -/
def fnBpIsZeroWrong : ChangeSpec := { name := "fnBpIsZero", fn := fun _ => fun
  | [d] => { results := [.lit (.bool false)], args := [d] }
  | _ => none }
def FnBpIsZeroWrongFalsely : Prop := fnBpIsZeroRow.holds Try.pinned (OpenSpec.ofChange fnBpIsZeroWrong)

/-- 'laws.FnBpNeg': WHATEVER THE INPUT: true; the input reads as it did. -/
def fnBpNegSpec : ChangeSpec := { name := "fnBpNeg", fn := fun _ => fun
  | [d] => { results := [.lit (.bool true)], args := [d] }
  | _ => none }
def fnBpNegRow : OpenClaim := { program := "ytifnkaddhaddmaa", sum := "6631be3d8be96158c824fcb24203a548a12b2c7ea85c6fe68295fe58d8c32b74", func := "loop.example/pub-g03342/laws.FnBpNeg", spec := "fnBpNeg", inPlace := ["math/bits.Sub64"], apart := false }
def FnBpNegSaid : Prop := fnBpNegRow.holds Try.pinned (OpenSpec.ofChange fnBpNegSpec)

/-- ITS FALSE NEIGHBOUR: 'it returns false'. Refute it at one input. -/
def fnBpNegWrong : ChangeSpec := { name := "fnBpNeg", fn := fun _ => fun
  | [d] => { results := [.lit (.bool false)], args := [d] }
  | _ => none }
def FnBpNegWrongFalsely : Prop := fnBpNegRow.holds Try.pinned (OpenSpec.ofChange fnBpNegWrong)

/-- 'laws.FnBpAddTurned': WHATEVER THE INPUT: true; the input reads as it did. -/
def fnBpAddTurnedSpec : ChangeSpec := { name := "fnBpAddTurned", fn := fun _ => fun
  | [d1, d2] => { results := [.lit (.bool true)], args := [d1, d2] }
  | _ => none }
def fnBpAddTurnedRow : OpenClaim := { program := "ytifnkaddhaddmaa", sum := "6631be3d8be96158c824fcb24203a548a12b2c7ea85c6fe68295fe58d8c32b74", func := "loop.example/pub-g03342/laws.FnBpAddTurned", spec := "fnBpAddTurned", inPlace := ["math/bits.Add64", "math/bits.Sub64"], apart := false }
def FnBpAddTurnedSaid : Prop := fnBpAddTurnedRow.holds Try.pinned (OpenSpec.ofChange fnBpAddTurnedSpec)

/-- ITS FALSE NEIGHBOUR: 'it returns false'. Refute it at one input. -/
def fnBpAddTurnedWrong : ChangeSpec := { name := "fnBpAddTurned", fn := fun _ => fun
  | [d1, d2] => { results := [.lit (.bool false)], args := [d1, d2] }
  | _ => none }
def FnBpAddTurnedWrongFalsely : Prop := fnBpAddTurnedRow.holds Try.pinned (OpenSpec.ofChange fnBpAddTurnedWrong)

/-- 'laws.FnBpMulBy5': WHATEVER THE INPUT: true; the input reads as it did. -/
def fnBpMulBy5Spec : ChangeSpec := { name := "fnBpMulBy5", fn := fun _ => fun
  | [d] => { results := [.lit (.bool true)], args := [d] }
  | _ => none }
def fnBpMulBy5Row : OpenClaim := { program := "ytifnkaddhaddmaa", sum := "6631be3d8be96158c824fcb24203a548a12b2c7ea85c6fe68295fe58d8c32b74", func := "loop.example/pub-g03342/laws.FnBpMulBy5", spec := "fnBpMulBy5", inPlace := ["math/bits.Add64", "math/bits.Sub64"], apart := false }
def FnBpMulBy5Said : Prop := fnBpMulBy5Row.holds Try.pinned (OpenSpec.ofChange fnBpMulBy5Spec)

/-- ITS FALSE NEIGHBOUR: 'it returns false'. Refute it at one input. -/
def fnBpMulBy5Wrong : ChangeSpec := { name := "fnBpMulBy5", fn := fun _ => fun
  | [d] => { results := [.lit (.bool false)], args := [d] }
  | _ => none }
def FnBpMulBy5WrongFalsely : Prop := fnBpMulBy5Row.holds Try.pinned (OpenSpec.ofChange fnBpMulBy5Wrong)

/-- 'laws.FnBpVecAdd': WHATEVER THE INPUT: true; the input reads as it did. -/
def fnBpVecAddSpec : ChangeSpec := { name := "fnBpVecAdd", fn := fun _ => fun
  | [d1, d2] => { results := [.lit (.bool true)], args := [d1, d2] }
  | _ => none }
def fnBpVecAddRow : OpenClaim := { program := "ytifnkaddhaddmaa", sum := "6631be3d8be96158c824fcb24203a548a12b2c7ea85c6fe68295fe58d8c32b74", func := "loop.example/pub-g03342/laws.FnBpVecAdd", spec := "fnBpVecAdd", inPlace := ["math/bits.Add64", "math/bits.Sub64"], apart := false }
def FnBpVecAddSaid : Prop := fnBpVecAddRow.holds Try.pinned (OpenSpec.ofChange fnBpVecAddSpec)

/-- ITS FALSE NEIGHBOUR: 'it returns false'. Refute it at one input. -/
def fnBpVecAddWrong : ChangeSpec := { name := "fnBpVecAdd", fn := fun _ => fun
  | [d1, d2] => { results := [.lit (.bool false)], args := [d1, d2] }
  | _ => none }
def FnBpVecAddWrongFalsely : Prop := fnBpVecAddRow.holds Try.pinned (OpenSpec.ofChange fnBpVecAddWrong)

/-- 'laws.FnBpNegAdd': WHATEVER THE INPUT: true; the input reads as it did. -/
def fnBpNegAddSpec : ChangeSpec := { name := "fnBpNegAdd", fn := fun _ => fun
  | [d] => { results := [.lit (.bool true)], args := [d] }
  | _ => none }
def fnBpNegAddRow : OpenClaim := { program := "ytifnkaddhaddmaa", sum := "6631be3d8be96158c824fcb24203a548a12b2c7ea85c6fe68295fe58d8c32b74", func := "loop.example/pub-g03342/laws.FnBpNegAdd", spec := "fnBpNegAdd", inPlace := ["math/bits.Sub64", "math/bits.Add64"], apart := false }
def FnBpNegAddSaid : Prop := fnBpNegAddRow.holds Try.pinned (OpenSpec.ofChange fnBpNegAddSpec)

/-- ITS FALSE NEIGHBOUR: 'it returns false'. Refute it at one input. -/
def fnBpNegAddWrong : ChangeSpec := { name := "fnBpNegAdd", fn := fun _ => fun
  | [d] => { results := [.lit (.bool false)], args := [d] }
  | _ => none }
def FnBpNegAddWrongFalsely : Prop := fnBpNegAddRow.holds Try.pinned (OpenSpec.ofChange fnBpNegAddWrong)

/- THE SECOND FORM. 'bulk': how many values and letters a reading holds, each counted each time it is reached (what is shared counts as often as it is met; a slice's spare places count too). A statement '..UptoSaid' is the law's where the arguments, and the package variables that the reading takes, are together of bulk at most 1048576: NARROWER than '..Said'. Prove '..Said' where nothing that the law and all that it calls make is longer than what came in: it says more and counts as full. Else prove '..UptoSaid'. A law counts once. -/
mutual
def uptoBulk {H : Type} : DataW H → Nat
  | .lit (.string bytes) => bytes.length + 1
  | .lit _ => 1
  | .nil => 1
  | .ptr d => uptoBulk d + 1
  | .slice elems spare => uptoBulkAll elems + uptoBulkAll spare + 1
  | .agg parts => uptoBulkAll parts + 1
  | .iface _ d => uptoBulk d + 1
  | .map entries => uptoBulkEntries entries + 1
  | .held _ => 1
def uptoBulkAll {H : Type} : List (DataW H) → Nat
  | [] => 0
  | d :: r => uptoBulk d + uptoBulkAll r
def uptoBulkEntries {H : Type} : List (Lit × DataW H) → Nat
  | [] => 0
  | x :: r => uptoBulkEntry x + uptoBulkEntries r
def uptoBulkEntry {H : Type} : Lit × DataW H → Nat
  | (.string bytes, d) => bytes.length + uptoBulk d + 1
  | (_, d) => uptoBulk d + 1
 end
def uptoSmall : (H : Type) → List (DataW H) → Bool := fun _ ds => decide (uptoBulkAll ds ≤ 1048576)
def OpenSpec.upto (s : _root_.Go.ChangeSpec) : _root_.Go.OpenSpec := { _root_.Go.OpenSpec.ofChange s with cond := some uptoSmall }

/-- 'laws.FnBpIsZero', WHERE WHAT IT READS IS OF BULK AT MOST 1048576: true; the input reads as it did. -/
def fnBpIsZeroUptoRow : OpenClaim := { program := "ytifnkaddhaddmaa", sum := "6631be3d8be96158c824fcb24203a548a12b2c7ea85c6fe68295fe58d8c32b74", func := "loop.example/pub-g03342/laws.FnBpIsZero", spec := "fnBpIsZero", apart := false, narrowed := true }
def FnBpIsZeroUptoSaid : Prop := fnBpIsZeroUptoRow.holds Try.pinned (OpenSpec.upto fnBpIsZeroSpec)

/-- 'laws.FnBpNeg', WHERE WHAT IT READS IS OF BULK AT MOST 1048576: true; the input reads as it did. -/
def fnBpNegUptoRow : OpenClaim := { program := "ytifnkaddhaddmaa", sum := "6631be3d8be96158c824fcb24203a548a12b2c7ea85c6fe68295fe58d8c32b74", func := "loop.example/pub-g03342/laws.FnBpNeg", spec := "fnBpNeg", inPlace := ["math/bits.Sub64"], apart := false, narrowed := true }
def FnBpNegUptoSaid : Prop := fnBpNegUptoRow.holds Try.pinned (OpenSpec.upto fnBpNegSpec)

/-- 'laws.FnBpAddTurned', WHERE WHAT IT READS IS OF BULK AT MOST 1048576: true; the input reads as it did. -/
def fnBpAddTurnedUptoRow : OpenClaim := { program := "ytifnkaddhaddmaa", sum := "6631be3d8be96158c824fcb24203a548a12b2c7ea85c6fe68295fe58d8c32b74", func := "loop.example/pub-g03342/laws.FnBpAddTurned", spec := "fnBpAddTurned", inPlace := ["math/bits.Add64", "math/bits.Sub64"], apart := false, narrowed := true }
def FnBpAddTurnedUptoSaid : Prop := fnBpAddTurnedUptoRow.holds Try.pinned (OpenSpec.upto fnBpAddTurnedSpec)

/-- 'laws.FnBpMulBy5', WHERE WHAT IT READS IS OF BULK AT MOST 1048576: true; the input reads as it did. -/
def fnBpMulBy5UptoRow : OpenClaim := { program := "ytifnkaddhaddmaa", sum := "6631be3d8be96158c824fcb24203a548a12b2c7ea85c6fe68295fe58d8c32b74", func := "loop.example/pub-g03342/laws.FnBpMulBy5", spec := "fnBpMulBy5", inPlace := ["math/bits.Add64", "math/bits.Sub64"], apart := false, narrowed := true }
def FnBpMulBy5UptoSaid : Prop := fnBpMulBy5UptoRow.holds Try.pinned (OpenSpec.upto fnBpMulBy5Spec)

/-- 'laws.FnBpVecAdd', WHERE WHAT IT READS IS OF BULK AT MOST 1048576: true; the input reads as it did. -/
def fnBpVecAddUptoRow : OpenClaim := { program := "ytifnkaddhaddmaa", sum := "6631be3d8be96158c824fcb24203a548a12b2c7ea85c6fe68295fe58d8c32b74", func := "loop.example/pub-g03342/laws.FnBpVecAdd", spec := "fnBpVecAdd", inPlace := ["math/bits.Add64", "math/bits.Sub64"], apart := false, narrowed := true }
def FnBpVecAddUptoSaid : Prop := fnBpVecAddUptoRow.holds Try.pinned (OpenSpec.upto fnBpVecAddSpec)

/-- 'laws.FnBpNegAdd', WHERE WHAT IT READS IS OF BULK AT MOST 1048576: true; the input reads as it did. -/
def fnBpNegAddUptoRow : OpenClaim := { program := "ytifnkaddhaddmaa", sum := "6631be3d8be96158c824fcb24203a548a12b2c7ea85c6fe68295fe58d8c32b74", func := "loop.example/pub-g03342/laws.FnBpNegAdd", spec := "fnBpNegAdd", inPlace := ["math/bits.Sub64", "math/bits.Add64"], apart := false, narrowed := true }
def FnBpNegAddUptoSaid : Prop := fnBpNegAddUptoRow.holds Try.pinned (OpenSpec.upto fnBpNegAddSpec)

end Rows
end Go.Proofs.Ytifnkaddhaddmaa
