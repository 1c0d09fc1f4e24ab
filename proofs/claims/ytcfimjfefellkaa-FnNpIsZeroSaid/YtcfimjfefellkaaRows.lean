/-
  No cell of these rows narrows 'for every input' (looked for: loops, veiled, ifaces, maps, wideKeys, modest, calm, conditions, laid).
  DERIVED. THE GIVEN ROWS OF THIS SEAT. 6 by the template 'for every input the law returns true; each argument reads behind the call as it read before'; 0 by the template 'total and deterministic' (their statements: YtcfimjfefellkaaTotals.lean).
  GIVEN WITH THE SEED: the statements are not yours to turn. If you find one false, say at which input.
  Laid BY PROGRAM, IN A SANDBOX (cutbox-rows.mjs): the forced cells as the released guide's own fill.sh prints them over the translation c2683ecc00f58ce4… (all of the seat's roots in one cut). By AI agents, Wed Nov 11 2026. No macro, syntax, notation, axiom, sorry.
-/
import Derived.Test.YtcfimjfefellkaaChecked
import GoSem.Claim
import GoSem.ClaimJoined
import GoSem.ClaimMapViews
import Derived.JoinedTies
import Derived.KernelRfl
namespace Go.Proofs.Ytcfimjfefellkaa
/- THE CELL 'sum', in the pinned program and in every row, IS THE sha256 OF THE DUMP (.gsa) THAT YtcfimjfefellkaaProg.lean LOADS. Nothing in Lean hashes anything: it is a label: what it is worth is what the hold of that sum in a sandbox is worth. -/
noncomputable def Try.pinned : Pinned := { name := "ytcfimjfefellkaa", sum := "c2683ecc00f58ce4111ee4c6142db5642cb46ab515f4744b93065f8b305016bf", checked := Try.checked }
namespace Rows
def none {H : Type} : Left H := { results := [], args := [] }

/-- 'laws.FnNpIsZero': WHATEVER THE INPUT: true; the input reads as it did. -/
def fnNpIsZeroSpec : ChangeSpec := { name := "fnNpIsZero", fn := fun _ => fun
  | [d] => { results := [.lit (.bool true)], args := [d] }
  | _ => none }
def fnNpIsZeroRow : OpenClaim := { program := "ytcfimjfefellkaa", sum := "c2683ecc00f58ce4111ee4c6142db5642cb46ab515f4744b93065f8b305016bf", func := "loop.example/pub-g03342/laws.FnNpIsZero", spec := "fnNpIsZero", apart := false }
def FnNpIsZeroSaid : Prop := fnNpIsZeroRow.holds Try.pinned (OpenSpec.ofChange fnNpIsZeroSpec)

/-- ITS FALSE NEIGHBOUR: 'it returns false'. Refute it at one input. -/
def fnNpIsZeroWrong : ChangeSpec := { name := "fnNpIsZero", fn := fun _ => fun
  | [d] => { results := [.lit (.bool false)], args := [d] }
  | _ => none }
def FnNpIsZeroWrongFalsely : Prop := fnNpIsZeroRow.holds Try.pinned (OpenSpec.ofChange fnNpIsZeroWrong)

/-- 'laws.FnNpNeg': WHATEVER THE INPUT: true; the input reads as it did. -/
def fnNpNegSpec : ChangeSpec := { name := "fnNpNeg", fn := fun _ => fun
  | [d] => { results := [.lit (.bool true)], args := [d] }
  | _ => none }
def fnNpNegRow : OpenClaim := { program := "ytcfimjfefellkaa", sum := "c2683ecc00f58ce4111ee4c6142db5642cb46ab515f4744b93065f8b305016bf", func := "loop.example/pub-g03342/laws.FnNpNeg", spec := "fnNpNeg", inPlace := ["math/bits.Sub64"], apart := false }
def FnNpNegSaid : Prop := fnNpNegRow.holds Try.pinned (OpenSpec.ofChange fnNpNegSpec)

/-- ITS FALSE NEIGHBOUR: 'it returns false'. Refute it at one input. -/
def fnNpNegWrong : ChangeSpec := { name := "fnNpNeg", fn := fun _ => fun
  | [d] => { results := [.lit (.bool false)], args := [d] }
  | _ => none }
def FnNpNegWrongFalsely : Prop := fnNpNegRow.holds Try.pinned (OpenSpec.ofChange fnNpNegWrong)

/-- 'laws.FnNpAddTurned': WHATEVER THE INPUT: true; the input reads as it did. -/
def fnNpAddTurnedSpec : ChangeSpec := { name := "fnNpAddTurned", fn := fun _ => fun
  | [d1, d2] => { results := [.lit (.bool true)], args := [d1, d2] }
  | _ => none }
def fnNpAddTurnedRow : OpenClaim := { program := "ytcfimjfefellkaa", sum := "c2683ecc00f58ce4111ee4c6142db5642cb46ab515f4744b93065f8b305016bf", func := "loop.example/pub-g03342/laws.FnNpAddTurned", spec := "fnNpAddTurned", inPlace := ["math/bits.Add64", "math/bits.Sub64"], apart := false }
def FnNpAddTurnedSaid : Prop := fnNpAddTurnedRow.holds Try.pinned (OpenSpec.ofChange fnNpAddTurnedSpec)

/-- ITS FALSE NEIGHBOUR: 'it returns false'. Refute it at one input. -/
def fnNpAddTurnedWrong : ChangeSpec := { name := "fnNpAddTurned", fn := fun _ => fun
  | [d1, d2] => { results := [.lit (.bool false)], args := [d1, d2] }
  | _ => none }
def FnNpAddTurnedWrongFalsely : Prop := fnNpAddTurnedRow.holds Try.pinned (OpenSpec.ofChange fnNpAddTurnedWrong)

/-- 'laws.FnNpMulBy5': WHATEVER THE INPUT: true; the input reads as it did. -/
def fnNpMulBy5Spec : ChangeSpec := { name := "fnNpMulBy5", fn := fun _ => fun
  | [d] => { results := [.lit (.bool true)], args := [d] }
  | _ => none }
def fnNpMulBy5Row : OpenClaim := { program := "ytcfimjfefellkaa", sum := "c2683ecc00f58ce4111ee4c6142db5642cb46ab515f4744b93065f8b305016bf", func := "loop.example/pub-g03342/laws.FnNpMulBy5", spec := "fnNpMulBy5", inPlace := ["math/bits.Add64", "math/bits.Sub64"], apart := false }
def FnNpMulBy5Said : Prop := fnNpMulBy5Row.holds Try.pinned (OpenSpec.ofChange fnNpMulBy5Spec)

/-- ITS FALSE NEIGHBOUR: 'it returns false'. Refute it at one input. -/
def fnNpMulBy5Wrong : ChangeSpec := { name := "fnNpMulBy5", fn := fun _ => fun
  | [d] => { results := [.lit (.bool false)], args := [d] }
  | _ => none }
def FnNpMulBy5WrongFalsely : Prop := fnNpMulBy5Row.holds Try.pinned (OpenSpec.ofChange fnNpMulBy5Wrong)

/-- 'laws.FnNpVecAdd': WHATEVER THE INPUT: true; the input reads as it did. -/
def fnNpVecAddSpec : ChangeSpec := { name := "fnNpVecAdd", fn := fun _ => fun
  | [d1, d2] => { results := [.lit (.bool true)], args := [d1, d2] }
  | _ => none }
def fnNpVecAddRow : OpenClaim := { program := "ytcfimjfefellkaa", sum := "c2683ecc00f58ce4111ee4c6142db5642cb46ab515f4744b93065f8b305016bf", func := "loop.example/pub-g03342/laws.FnNpVecAdd", spec := "fnNpVecAdd", inPlace := ["math/bits.Add64", "math/bits.Sub64"], apart := false }
def FnNpVecAddSaid : Prop := fnNpVecAddRow.holds Try.pinned (OpenSpec.ofChange fnNpVecAddSpec)

/-- ITS FALSE NEIGHBOUR: 'it returns false'. Refute it at one input. -/
def fnNpVecAddWrong : ChangeSpec := { name := "fnNpVecAdd", fn := fun _ => fun
  | [d1, d2] => { results := [.lit (.bool false)], args := [d1, d2] }
  | _ => none }
def FnNpVecAddWrongFalsely : Prop := fnNpVecAddRow.holds Try.pinned (OpenSpec.ofChange fnNpVecAddWrong)

/-- 'laws.FnNpNegAdd': WHATEVER THE INPUT: true; the input reads as it did. -/
def fnNpNegAddSpec : ChangeSpec := { name := "fnNpNegAdd", fn := fun _ => fun
  | [d] => { results := [.lit (.bool true)], args := [d] }
  | _ => none }
def fnNpNegAddRow : OpenClaim := { program := "ytcfimjfefellkaa", sum := "c2683ecc00f58ce4111ee4c6142db5642cb46ab515f4744b93065f8b305016bf", func := "loop.example/pub-g03342/laws.FnNpNegAdd", spec := "fnNpNegAdd", inPlace := ["math/bits.Sub64", "math/bits.Add64"], apart := false }
def FnNpNegAddSaid : Prop := fnNpNegAddRow.holds Try.pinned (OpenSpec.ofChange fnNpNegAddSpec)

/-- ITS FALSE NEIGHBOUR: 'it returns false'. Refute it at one input. -/
def fnNpNegAddWrong : ChangeSpec := { name := "fnNpNegAdd", fn := fun _ => fun
  | [d] => { results := [.lit (.bool false)], args := [d] }
  | _ => none }
def FnNpNegAddWrongFalsely : Prop := fnNpNegAddRow.holds Try.pinned (OpenSpec.ofChange fnNpNegAddWrong)

/- THE SECOND FORM. 'bulk': how many values and letters a reading holds, each counted each time it is reached (what is shared counts as often as it is met; a slice's spare places count too). A statement '..UptoSaid' is the law's where the arguments, and the package variables that the reading takes, are together of bulk at most 1048576: NARROWER than '..Said'. Prove '..Said' where nothing that the law and all that it calls make is longer than what came in: it says more and counts as full. Else prove '..UptoSaid'. A law counts once. -/
mutual
def uptoBulk {H : Type} : DataW H → Nat
  | .lit (.string bytes) => bytes.length + 1
  | .lit _ => 1
  | .nil => 1
  | .ptr d => uptoBulk d + 1
  | .slice elems spare => uptoBulkAll elems + uptoBulkAll spare + 1
  | .agg parts => uptoBulkAll parts + 1
  | .iface _ d => uptoBulk d + 1
  | .map entries => uptoBulkEntries entries + 1
  | .held _ => 1
def uptoBulkAll {H : Type} : List (DataW H) → Nat
  | [] => 0
  | d :: r => uptoBulk d + uptoBulkAll r
def uptoBulkEntries {H : Type} : List (Lit × DataW H) → Nat
  | [] => 0
  | x :: r => uptoBulkEntry x + uptoBulkEntries r
def uptoBulkEntry {H : Type} : Lit × DataW H → Nat
  | (.string bytes, d) => bytes.length + uptoBulk d + 1
  | (_, d) => uptoBulk d + 1
 end
def uptoSmall : (H : Type) → List (DataW H) → Bool := fun _ ds => decide (uptoBulkAll ds ≤ 1048576)
def OpenSpec.upto (s : _root_.Go.ChangeSpec) : _root_.Go.OpenSpec := { _root_.Go.OpenSpec.ofChange s with cond := some uptoSmall }

/-- 'laws.FnNpIsZero', WHERE WHAT IT READS IS OF BULK AT MOST 1048576: true; the input reads as it did. -/
def fnNpIsZeroUptoRow : OpenClaim := { program := "ytcfimjfefellkaa", sum := "c2683ecc00f58ce4111ee4c6142db5642cb46ab515f4744b93065f8b305016bf", func := "loop.example/pub-g03342/laws.FnNpIsZero", spec := "fnNpIsZero", apart := false, narrowed := true }
def FnNpIsZeroUptoSaid : Prop := fnNpIsZeroUptoRow.holds Try.pinned (OpenSpec.upto fnNpIsZeroSpec)

/-- 'laws.FnNpNeg', WHERE WHAT IT READS IS OF BULK AT MOST 1048576: true; the input reads as it did. -/
def fnNpNegUptoRow : OpenClaim := { program := "ytcfimjfefellkaa", sum := "c2683ecc00f58ce4111ee4c6142db5642cb46ab515f4744b93065f8b305016bf", func := "loop.example/pub-g03342/laws.FnNpNeg", spec := "fnNpNeg", inPlace := ["math/bits.Sub64"], apart := false, narrowed := true }
def FnNpNegUptoSaid : Prop := fnNpNegUptoRow.holds Try.pinned (OpenSpec.upto fnNpNegSpec)

/-- 'laws.FnNpAddTurned', WHERE WHAT IT READS IS OF BULK AT MOST 1048576: true; the input reads as it did. -/
def fnNpAddTurnedUptoRow : OpenClaim := { program := "ytcfimjfefellkaa", sum := "c2683ecc00f58ce4111ee4c6142db5642cb46ab515f4744b93065f8b305016bf", func := "loop.example/pub-g03342/laws.FnNpAddTurned", spec := "fnNpAddTurned", inPlace := ["math/bits.Add64", "math/bits.Sub64"], apart := false, narrowed := true }
def FnNpAddTurnedUptoSaid : Prop := fnNpAddTurnedUptoRow.holds Try.pinned (OpenSpec.upto fnNpAddTurnedSpec)

/-- 'laws.FnNpMulBy5', WHERE WHAT IT READS IS OF BULK AT MOST 1048576: true; the input reads as it did. -/
def fnNpMulBy5UptoRow : OpenClaim := { program := "ytcfimjfefellkaa", sum := "c2683ecc00f58ce4111ee4c6142db5642cb46ab515f4744b93065f8b305016bf", func := "loop.example/pub-g03342/laws.FnNpMulBy5", spec := "fnNpMulBy5", inPlace := ["math/bits.Add64", "math/bits.Sub64"], apart := false, narrowed := true }
def FnNpMulBy5UptoSaid : Prop := fnNpMulBy5UptoRow.holds Try.pinned (OpenSpec.upto fnNpMulBy5Spec)

/-- 'laws.FnNpVecAdd', WHERE WHAT IT READS IS OF BULK AT MOST 1048576: true; the input reads as it did. -/
def fnNpVecAddUptoRow : OpenClaim := { program := "ytcfimjfefellkaa", sum := "c2683ecc00f58ce4111ee4c6142db5642cb46ab515f4744b93065f8b305016bf", func := "loop.example/pub-g03342/laws.FnNpVecAdd", spec := "fnNpVecAdd", inPlace := ["math/bits.Add64", "math/bits.Sub64"], apart := false, narrowed := true }
def FnNpVecAddUptoSaid : Prop := fnNpVecAddUptoRow.holds Try.pinned (OpenSpec.upto fnNpVecAddSpec)

/-- 'laws.FnNpNegAdd', WHERE WHAT IT READS IS OF BULK AT MOST 1048576: true; the input reads as it did. -/
def fnNpNegAddUptoRow : OpenClaim := { program := "ytcfimjfefellkaa", sum := "c2683ecc00f58ce4111ee4c6142db5642cb46ab515f4744b93065f8b305016bf", func := "loop.example/pub-g03342/laws.FnNpNegAdd", spec := "fnNpNegAdd", inPlace := ["math/bits.Sub64", "math/bits.Add64"], apart := false, narrowed := true }
def FnNpNegAddUptoSaid : Prop := fnNpNegAddUptoRow.holds Try.pinned (OpenSpec.upto fnNpNegAddSpec)

end Rows
end Go.Proofs.Ytcfimjfefellkaa
