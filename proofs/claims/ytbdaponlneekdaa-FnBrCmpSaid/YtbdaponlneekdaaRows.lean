/-
  No cell of these rows narrows 'for every input' (looked for: loops, veiled, ifaces, maps, wideKeys, modest, calm, conditions, laid).
  DERIVED. THE GIVEN ROWS OF THIS SEAT. 3 by the template 'for every input the law returns true; each argument reads behind the call as it read before'; 0 by the template 'total and deterministic' (their statements: YtbdaponlneekdaaTotals.lean).
  GIVEN WITH THE SEED: the statements are not yours to turn. If you find one false, say at which input.
  Laid BY PROGRAM, IN A SANDBOX (cutbox-rows.mjs): the forced cells as the released guide's own fill.sh prints them over the translation e9baa4a5de73eb2e… (all of the seat's roots in one cut). By AI agents, Wed Nov 11 2026. No macro, syntax, notation, axiom, sorry.
-/
import Derived.Test.YtbdaponlneekdaaChecked
import GoSem.Claim
import GoSem.ClaimJoined
import GoSem.ClaimMapViews
import Derived.JoinedTies
import Derived.KernelRfl
namespace Go.Proofs.Ytbdaponlneekdaa
/- THE CELL 'sum', in the pinned program and in every row, IS THE sha256 OF THE DUMP (.gsa) THAT YtbdaponlneekdaaProg.lean LOADS. Nothing in Lean hashes anything: it is a label: what it is worth is what the hold of that sum in a sandbox is worth. -/
noncomputable def Try.pinned : Pinned := { name := "ytbdaponlneekdaa", sum := "e9baa4a5de73eb2e06ad9729315050f017840fbece7920b37d5354b07465aff3", checked := Try.checked }
namespace Rows
def none {H : Type} : Left H := { results := [], args := [] }

/-- 'laws.FnBrBits': WHATEVER THE INPUT: true; the input reads as it did. -/
def fnBrBitsSpec : ChangeSpec := { name := "fnBrBits", fn := fun _ => fun
  | [d] => { results := [.lit (.bool true)], args := [d] }
  | _ => none }
def fnBrBitsRow : OpenClaim := { program := "ytbdaponlneekdaa", sum := "e9baa4a5de73eb2e06ad9729315050f017840fbece7920b37d5354b07465aff3", func := "loop.example/pub-g03342/laws.FnBrBits", spec := "fnBrBits", inPlace := ["math/bits.Add64", "math/bits.Sub64"], apart := false }
def FnBrBitsSaid : Prop := fnBrBitsRow.holds Try.pinned (OpenSpec.ofChange fnBrBitsSpec)

/-- ITS FALSE NEIGHBOUR: 'it returns false'. Refute it at one input. -/
def fnBrBitsWrong : ChangeSpec := { name := "fnBrBits", fn := fun _ => fun
  | [d] => { results := [.lit (.bool false)], args := [d] }
  | _ => none }
def FnBrBitsWrongFalsely : Prop := fnBrBitsRow.holds Try.pinned (OpenSpec.ofChange fnBrBitsWrong)

/-- 'laws.FnBrIsUint64': WHATEVER THE INPUT: true; the input reads as it did. -/
def fnBrIsUint64Spec : ChangeSpec := { name := "fnBrIsUint64", fn := fun _ => fun
  | [d] => { results := [.lit (.bool true)], args := [d] }
  | _ => none }
def fnBrIsUint64Row : OpenClaim := { program := "ytbdaponlneekdaa", sum := "e9baa4a5de73eb2e06ad9729315050f017840fbece7920b37d5354b07465aff3", func := "loop.example/pub-g03342/laws.FnBrIsUint64", spec := "fnBrIsUint64", inPlace := ["math/bits.Add64", "math/bits.Sub64"], apart := false }
def FnBrIsUint64Said : Prop := fnBrIsUint64Row.holds Try.pinned (OpenSpec.ofChange fnBrIsUint64Spec)

/-- ITS FALSE NEIGHBOUR: 'it returns false'. Refute it at one input. -/
def fnBrIsUint64Wrong : ChangeSpec := { name := "fnBrIsUint64", fn := fun _ => fun
  | [d] => { results := [.lit (.bool false)], args := [d] }
  | _ => none }
def FnBrIsUint64WrongFalsely : Prop := fnBrIsUint64Row.holds Try.pinned (OpenSpec.ofChange fnBrIsUint64Wrong)

/-- 'laws.FnBrCmp': WHATEVER THE INPUT: true; the input reads as it did. -/
def fnBrCmpSpec : ChangeSpec := { name := "fnBrCmp", fn := fun _ => fun
  | [d1, d2] => { results := [.lit (.bool true)], args := [d1, d2] }
  | _ => none }
def fnBrCmpRow : OpenClaim := { program := "ytbdaponlneekdaa", sum := "e9baa4a5de73eb2e06ad9729315050f017840fbece7920b37d5354b07465aff3", func := "loop.example/pub-g03342/laws.FnBrCmp", spec := "fnBrCmp", inPlace := ["math/bits.Add64", "math/bits.Sub64"], apart := false }
def FnBrCmpSaid : Prop := fnBrCmpRow.holds Try.pinned (OpenSpec.ofChange fnBrCmpSpec)

/-- ITS FALSE NEIGHBOUR: 'it returns false'. Refute it at one input. -/
def fnBrCmpWrong : ChangeSpec := { name := "fnBrCmp", fn := fun _ => fun
  | [d1, d2] => { results := [.lit (.bool false)], args := [d1, d2] }
  | _ => none }
def FnBrCmpWrongFalsely : Prop := fnBrCmpRow.holds Try.pinned (OpenSpec.ofChange fnBrCmpWrong)

/- THE SECOND FORM. 'bulk': how many values and letters a reading holds, each counted each time it is reached (what is shared counts as often as it is met; a slice's spare places count too). A statement '..UptoSaid' is the law's where the arguments, and the package variables that the reading takes, are together of bulk at most 1048576: NARROWER than '..Said'. Prove '..Said' where nothing that the law and all that it calls make is longer than what came in: it says more and counts as full. Else prove '..UptoSaid'. A law counts once. -/
mutual
def uptoBulk {H : Type} : DataW H → Nat
  | .lit (.string bytes) => bytes.length + 1
  | .lit _ => 1
  | .nil => 1
  | .ptr d => uptoBulk d + 1
  | .slice elems spare => uptoBulkAll elems + uptoBulkAll spare + 1
  | .agg parts => uptoBulkAll parts + 1
  | .iface _ d => uptoBulk d + 1
  | .map entries => uptoBulkEntries entries + 1
  | .held _ => 1
def uptoBulkAll {H : Type} : List (DataW H) → Nat
  | [] => 0
  | d :: r => uptoBulk d + uptoBulkAll r
def uptoBulkEntries {H : Type} : List (Lit × DataW H) → Nat
  | [] => 0
  | x :: r => uptoBulkEntry x + uptoBulkEntries r
def uptoBulkEntry {H : Type} : Lit × DataW H → Nat
  | (.string bytes, d) => bytes.length + uptoBulk d + 1
  | (_, d) => uptoBulk d + 1
 end
def uptoSmall : (H : Type) → List (DataW H) → Bool := fun _ ds => decide (uptoBulkAll ds ≤ 1048576)
def OpenSpec.upto (s : _root_.Go.ChangeSpec) : _root_.Go.OpenSpec := { _root_.Go.OpenSpec.ofChange s with cond := some uptoSmall }

/-- 'laws.FnBrBits', WHERE WHAT IT READS IS OF BULK AT MOST 1048576: true; the input reads as it did. -/
def fnBrBitsUptoRow : OpenClaim := { program := "ytbdaponlneekdaa", sum := "e9baa4a5de73eb2e06ad9729315050f017840fbece7920b37d5354b07465aff3", func := "loop.example/pub-g03342/laws.FnBrBits", spec := "fnBrBits", inPlace := ["math/bits.Add64", "math/bits.Sub64"], apart := false, narrowed := true }
def FnBrBitsUptoSaid : Prop := fnBrBitsUptoRow.holds Try.pinned (OpenSpec.upto fnBrBitsSpec)

/-- 'laws.FnBrIsUint64', WHERE WHAT IT READS IS OF BULK AT MOST 1048576: true; the input reads as it did. -/
def fnBrIsUint64UptoRow : OpenClaim := { program := "ytbdaponlneekdaa", sum := "e9baa4a5de73eb2e06ad9729315050f017840fbece7920b37d5354b07465aff3", func := "loop.example/pub-g03342/laws.FnBrIsUint64", spec := "fnBrIsUint64", inPlace := ["math/bits.Add64", "math/bits.Sub64"], apart := false, narrowed := true }
def FnBrIsUint64UptoSaid : Prop := fnBrIsUint64UptoRow.holds Try.pinned (OpenSpec.upto fnBrIsUint64Spec)

/-- 'laws.FnBrCmp', WHERE WHAT IT READS IS OF BULK AT MOST 1048576: true; the input reads as it did. -/
def fnBrCmpUptoRow : OpenClaim := { program := "ytbdaponlneekdaa", sum := "e9baa4a5de73eb2e06ad9729315050f017840fbece7920b37d5354b07465aff3", func := "loop.example/pub-g03342/laws.FnBrCmp", spec := "fnBrCmp", inPlace := ["math/bits.Add64", "math/bits.Sub64"], apart := false, narrowed := true }
def FnBrCmpUptoSaid : Prop := fnBrCmpUptoRow.holds Try.pinned (OpenSpec.upto fnBrCmpSpec)

end Rows
end Go.Proofs.Ytbdaponlneekdaa
