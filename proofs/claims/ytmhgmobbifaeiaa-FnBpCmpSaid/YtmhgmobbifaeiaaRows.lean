/-
  No cell of these rows narrows 'for every input' (looked for: loops, veiled, ifaces, maps, wideKeys, modest, calm, conditions, laid).
  DERIVED. THE GIVEN ROWS OF THIS SEAT. 3 by the template 'for every input the law returns true; each argument reads behind the call as it read before'; 0 by the template 'total and deterministic' (their statements: YtmhgmobbifaeiaaTotals.lean).
  GIVEN WITH THE SEED: the statements are not yours to turn. If you find one false, say at which input.
  Laid BY PROGRAM, IN A SANDBOX (cutbox-rows.mjs): the forced cells as the released guide's own fill.sh prints them over the translation 73f1471f2ef77a8c… (all of the seat's roots in one cut). By AI agents, Wed Nov 11 2026. No macro, syntax, notation, axiom, sorry.
-/
import Derived.Test.YtmhgmobbifaeiaaChecked
import GoSem.Claim
import GoSem.ClaimJoined
import GoSem.ClaimMapViews
import Derived.JoinedTies
import Derived.KernelRfl
namespace Go.Proofs.Ytmhgmobbifaeiaa
/- THE CELL 'sum', in the pinned program and in every row, IS THE sha256 OF THE DUMP (.gsa) THAT YtmhgmobbifaeiaaProg.lean LOADS. Nothing in Lean hashes anything: it is a label: what it is worth is what the hold of that sum in a sandbox is worth. -/
noncomputable def Try.pinned : Pinned := { name := "ytmhgmobbifaeiaa", sum := "73f1471f2ef77a8c0d9467ee5cfb7d1a3e84f20f6c56e3a575ad696d948f8762", checked := Try.checked }
namespace Rows
def none {H : Type} : Left H := { results := [], args := [] }

/-- 'laws.FnBpBits': WHATEVER THE INPUT: true; the input reads as it did. -/
def fnBpBitsSpec : ChangeSpec := { name := "fnBpBits", fn := fun _ => fun
  | [d] => { results := [.lit (.bool true)], args := [d] }
  | _ => none }
def fnBpBitsRow : OpenClaim := { program := "ytmhgmobbifaeiaa", sum := "73f1471f2ef77a8c0d9467ee5cfb7d1a3e84f20f6c56e3a575ad696d948f8762", func := "loop.example/pub-g03342/laws.FnBpBits", spec := "fnBpBits", inPlace := ["math/bits.Add64", "math/bits.Sub64"], apart := false }
def FnBpBitsSaid : Prop := fnBpBitsRow.holds Try.pinned (OpenSpec.ofChange fnBpBitsSpec)

/-- ITS FALSE NEIGHBOUR: 'it returns false'. Refute it at one input. -/
def fnBpBitsWrong : ChangeSpec := { name := "fnBpBits", fn := fun _ => fun
  | [d] => { results := [.lit (.bool false)], args := [d] }
  | _ => none }
def FnBpBitsWrongFalsely : Prop := fnBpBitsRow.holds Try.pinned (OpenSpec.ofChange fnBpBitsWrong)

/-- 'laws.FnBpIsUint64': WHATEVER THE INPUT: true; the input reads as it did. -/
def fnBpIsUint64Spec : ChangeSpec := { name := "fnBpIsUint64", fn := fun _ => fun
  | [d] => { results := [.lit (.bool true)], args := [d] }
  | _ => none }
def fnBpIsUint64Row : OpenClaim := { program := "ytmhgmobbifaeiaa", sum := "73f1471f2ef77a8c0d9467ee5cfb7d1a3e84f20f6c56e3a575ad696d948f8762", func := "loop.example/pub-g03342/laws.FnBpIsUint64", spec := "fnBpIsUint64", inPlace := ["math/bits.Add64", "math/bits.Sub64"], apart := false }
def FnBpIsUint64Said : Prop := fnBpIsUint64Row.holds Try.pinned (OpenSpec.ofChange fnBpIsUint64Spec)

/-- ITS FALSE NEIGHBOUR: 'it returns false'. Refute it at one input. -/
def fnBpIsUint64Wrong : ChangeSpec := { name := "fnBpIsUint64", fn := fun _ => fun
  | [d] => { results := [.lit (.bool false)], args := [d] }
  | _ => none }
def FnBpIsUint64WrongFalsely : Prop := fnBpIsUint64Row.holds Try.pinned (OpenSpec.ofChange fnBpIsUint64Wrong)

/-- 'laws.FnBpCmp': WHATEVER THE INPUT: true; the input reads as it did. -/
def fnBpCmpSpec : ChangeSpec := { name := "fnBpCmp", fn := fun _ => fun
  | [d1, d2] => { results := [.lit (.bool true)], args := [d1, d2] }
  | _ => none }
def fnBpCmpRow : OpenClaim := { program := "ytmhgmobbifaeiaa", sum := "73f1471f2ef77a8c0d9467ee5cfb7d1a3e84f20f6c56e3a575ad696d948f8762", func := "loop.example/pub-g03342/laws.FnBpCmp", spec := "fnBpCmp", inPlace := ["math/bits.Add64", "math/bits.Sub64"], apart := false }
def FnBpCmpSaid : Prop := fnBpCmpRow.holds Try.pinned (OpenSpec.ofChange fnBpCmpSpec)

/-- ITS FALSE NEIGHBOUR: 'it returns false'. Refute it at one input. -/
def fnBpCmpWrong : ChangeSpec := { name := "fnBpCmp", fn := fun _ => fun
  | [d1, d2] => { results := [.lit (.bool false)], args := [d1, d2] }
  | _ => none }
def FnBpCmpWrongFalsely : Prop := fnBpCmpRow.holds Try.pinned (OpenSpec.ofChange fnBpCmpWrong)

/- THE SECOND FORM. 'bulk': how many values and letters a reading holds, each counted each time it is reached (what is shared counts as often as it is met; a slice's spare places count too). A statement '..UptoSaid' is the law's where the arguments, and the package variables that the reading takes, are together of bulk at most 1048576: NARROWER than '..Said'. Prove '..Said' where nothing that the law and all that it calls make is longer than what came in: it says more and counts as full. Else prove '..UptoSaid'. A law counts once. -/
mutual
def uptoBulk {H : Type} : DataW H → Nat
  | .lit (.string bytes) => bytes.length + 1
  | .lit _ => 1
  | .nil => 1
  | .ptr d => uptoBulk d + 1
  | .slice elems spare => uptoBulkAll elems + uptoBulkAll spare + 1
  | .agg parts => uptoBulkAll parts + 1
  | .iface _ d => uptoBulk d + 1
  | .map entries => uptoBulkEntries entries + 1
  | .held _ => 1
def uptoBulkAll {H : Type} : List (DataW H) → Nat
  | [] => 0
  | d :: r => uptoBulk d + uptoBulkAll r
def uptoBulkEntries {H : Type} : List (Lit × DataW H) → Nat
  | [] => 0
  | x :: r => uptoBulkEntry x + uptoBulkEntries r
def uptoBulkEntry {H : Type} : Lit × DataW H → Nat
  | (.string bytes, d) => bytes.length + uptoBulk d + 1
  | (_, d) => uptoBulk d + 1
 end
def uptoSmall : (H : Type) → List (DataW H) → Bool := fun _ ds => decide (uptoBulkAll ds ≤ 1048576)
def OpenSpec.upto (s : _root_.Go.ChangeSpec) : _root_.Go.OpenSpec := { _root_.Go.OpenSpec.ofChange s with cond := some uptoSmall }

/-- 'laws.FnBpBits', WHERE WHAT IT READS IS OF BULK AT MOST 1048576: true; the input reads as it did. -/
def fnBpBitsUptoRow : OpenClaim := { program := "ytmhgmobbifaeiaa", sum := "73f1471f2ef77a8c0d9467ee5cfb7d1a3e84f20f6c56e3a575ad696d948f8762", func := "loop.example/pub-g03342/laws.FnBpBits", spec := "fnBpBits", inPlace := ["math/bits.Add64", "math/bits.Sub64"], apart := false, narrowed := true }
def FnBpBitsUptoSaid : Prop := fnBpBitsUptoRow.holds Try.pinned (OpenSpec.upto fnBpBitsSpec)

/-- 'laws.FnBpIsUint64', WHERE WHAT IT READS IS OF BULK AT MOST 1048576: true; the input reads as it did. -/
def fnBpIsUint64UptoRow : OpenClaim := { program := "ytmhgmobbifaeiaa", sum := "73f1471f2ef77a8c0d9467ee5cfb7d1a3e84f20f6c56e3a575ad696d948f8762", func := "loop.example/pub-g03342/laws.FnBpIsUint64", spec := "fnBpIsUint64", inPlace := ["math/bits.Add64", "math/bits.Sub64"], apart := false, narrowed := true }
def FnBpIsUint64UptoSaid : Prop := fnBpIsUint64UptoRow.holds Try.pinned (OpenSpec.upto fnBpIsUint64Spec)

/-- 'laws.FnBpCmp', WHERE WHAT IT READS IS OF BULK AT MOST 1048576: true; the input reads as it did. -/
def fnBpCmpUptoRow : OpenClaim := { program := "ytmhgmobbifaeiaa", sum := "73f1471f2ef77a8c0d9467ee5cfb7d1a3e84f20f6c56e3a575ad696d948f8762", func := "loop.example/pub-g03342/laws.FnBpCmp", spec := "fnBpCmp", inPlace := ["math/bits.Add64", "math/bits.Sub64"], apart := false, narrowed := true }
def FnBpCmpUptoSaid : Prop := fnBpCmpUptoRow.holds Try.pinned (OpenSpec.upto fnBpCmpSpec)

end Rows
end Go.Proofs.Ytmhgmobbifaeiaa
