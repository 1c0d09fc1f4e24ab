/-
  No cell of these rows narrows 'for every input' (looked for: loops, veiled, ifaces, maps, wideKeys, modest, calm, conditions, laid).
  DERIVED. THE GIVEN ROWS OF THIS SEAT. 3 by the template 'for every input the law returns true; each argument reads behind the call as it read before'; 0 by the template 'total and deterministic' (their statements: YtjfnieenpiinlaaTotals.lean).
  GIVEN WITH THE SEED: the statements are not yours to turn. If you find one false, say at which input.
  Laid BY PROGRAM, IN A SANDBOX (cutbox-rows.mjs): the forced cells as the released guide's own fill.sh prints them over the translation b2cb4696f8832f0c… (all of the seat's roots in one cut). By AI agents, Wed Nov 11 2026. No macro, syntax, notation, axiom, sorry.
-/
import Derived.Test.YtjfnieenpiinlaaChecked
import GoSem.Claim
import GoSem.ClaimJoined
import GoSem.ClaimMapViews
import Derived.JoinedTies
import Derived.KernelRfl
namespace Go.Proofs.Ytjfnieenpiinlaa
/- THE CELL 'sum', in the pinned program and in every row, IS THE sha256 OF THE DUMP (.gsa) THAT YtjfnieenpiinlaaProg.lean LOADS. Nothing in Lean hashes anything: it is a label: what it is worth is what the hold of that sum in a sandbox is worth. -/
noncomputable def Try.pinned : Pinned := { name := "ytjfnieenpiinlaa", sum := "b2cb4696f8832f0cc35f266b5e4dc28a91c554e14ac98ddd8f8b55642ec89511", checked := Try.checked }
namespace Rows
def none {H : Type} : Left H := { results := [], args := [] }

/-- 'laws.FnNpBits': WHATEVER THE INPUT: true; the input reads as it did. -/
def fnNpBitsSpec : ChangeSpec := { name := "fnNpBits", fn := fun _ => fun
  | [d] => { results := [.lit (.bool true)], args := [d] }
  | _ => none }
def fnNpBitsRow : OpenClaim := { program := "ytjfnieenpiinlaa", sum := "b2cb4696f8832f0cc35f266b5e4dc28a91c554e14ac98ddd8f8b55642ec89511", func := "loop.example/pub-g03342/laws.FnNpBits", spec := "fnNpBits", inPlace := ["math/bits.Add64", "math/bits.Sub64"], apart := false }
def FnNpBitsSaid : Prop := fnNpBitsRow.holds Try.pinned (OpenSpec.ofChange fnNpBitsSpec)

/-- ITS FALSE NEIGHBOUR: 'it returns false'. Refute it at one input. -/
def fnNpBitsWrong : ChangeSpec := { name := "fnNpBits", fn := fun _ => fun
  | [d] => { results := [.lit (.bool false)], args := [d] }
  | _ => none }
def FnNpBitsWrongFalsely : Prop := fnNpBitsRow.holds Try.pinned (OpenSpec.ofChange fnNpBitsWrong)

/-- 'laws.FnNpIsUint64': WHATEVER THE INPUT: true; the input reads as it did. -/
def fnNpIsUint64Spec : ChangeSpec := { name := "fnNpIsUint64", fn := fun _ => fun
  | [d] => { results := [.lit (.bool true)], args := [d] }
  | _ => none }
def fnNpIsUint64Row : OpenClaim := { program := "ytjfnieenpiinlaa", sum := "b2cb4696f8832f0cc35f266b5e4dc28a91c554e14ac98ddd8f8b55642ec89511", func := "loop.example/pub-g03342/laws.FnNpIsUint64", spec := "fnNpIsUint64", inPlace := ["math/bits.Add64", "math/bits.Sub64"], apart := false }
def FnNpIsUint64Said : Prop := fnNpIsUint64Row.holds Try.pinned (OpenSpec.ofChange fnNpIsUint64Spec)

/-- ITS FALSE NEIGHBOUR: 'it returns false'. Refute it at one input. -/
def fnNpIsUint64Wrong : ChangeSpec := { name := "fnNpIsUint64", fn := fun _ => fun
  | [d] => { results := [.lit (.bool false)], args := [d] }
  | _ => none }
def FnNpIsUint64WrongFalsely : Prop := fnNpIsUint64Row.holds Try.pinned (OpenSpec.ofChange fnNpIsUint64Wrong)

/-- 'laws.FnNpCmp': WHATEVER THE INPUT: true; the input reads as it did. -/
def fnNpCmpSpec : ChangeSpec := { name := "fnNpCmp", fn := fun _ => fun
  | [d1, d2] => { results := [.lit (.bool true)], args := [d1, d2] }
  | _ => none }
def fnNpCmpRow : OpenClaim := { program := "ytjfnieenpiinlaa", sum := "b2cb4696f8832f0cc35f266b5e4dc28a91c554e14ac98ddd8f8b55642ec89511", func := "loop.example/pub-g03342/laws.FnNpCmp", spec := "fnNpCmp", inPlace := ["math/bits.Add64", "math/bits.Sub64"], apart := false }
def FnNpCmpSaid : Prop := fnNpCmpRow.holds Try.pinned (OpenSpec.ofChange fnNpCmpSpec)

/-- ITS FALSE NEIGHBOUR: 'it returns false'. Refute it at one input. -/
def fnNpCmpWrong : ChangeSpec := { name := "fnNpCmp", fn := fun _ => fun
  | [d1, d2] => { results := [.lit (.bool false)], args := [d1, d2] }
  | _ => none }
def FnNpCmpWrongFalsely : Prop := fnNpCmpRow.holds Try.pinned (OpenSpec.ofChange fnNpCmpWrong)

/- THE SECOND FORM. 'bulk': how many values and letters a reading holds, each counted each time it is reached (what is shared counts as often as it is met; a slice's spare places count too). A statement '..UptoSaid' is the law's where the arguments, and the package variables that the reading takes, are together of bulk at most 1048576: NARROWER than '..Said'. Prove '..Said' where nothing that the law and all that it calls make is longer than what came in: it says more and counts as full. Else prove '..UptoSaid'. A law counts once. -/
mutual
def uptoBulk {H : Type} : DataW H → Nat
  | .lit (.string bytes) => bytes.length + 1
  | .lit _ => 1
  | .nil => 1
  | .ptr d => uptoBulk d + 1
  | .slice elems spare => uptoBulkAll elems + uptoBulkAll spare + 1
  | .agg parts => uptoBulkAll parts + 1
  | .iface _ d => uptoBulk d + 1
  | .map entries => uptoBulkEntries entries + 1
  | .held _ => 1
def uptoBulkAll {H : Type} : List (DataW H) → Nat
  | [] => 0
  | d :: r => uptoBulk d + uptoBulkAll r
def uptoBulkEntries {H : Type} : List (Lit × DataW H) → Nat
  | [] => 0
  | x :: r => uptoBulkEntry x + uptoBulkEntries r
def uptoBulkEntry {H : Type} : Lit × DataW H → Nat
  | (.string bytes, d) => bytes.length + uptoBulk d + 1
  | (_, d) => uptoBulk d + 1
 end
def uptoSmall : (H : Type) → List (DataW H) → Bool := fun _ ds => decide (uptoBulkAll ds ≤ 1048576)
def OpenSpec.upto (s : _root_.Go.ChangeSpec) : _root_.Go.OpenSpec := { _root_.Go.OpenSpec.ofChange s with cond := some uptoSmall }

/-- 'laws.FnNpBits', WHERE WHAT IT READS IS OF BULK AT MOST 1048576: true; the input reads as it did. -/
def fnNpBitsUptoRow : OpenClaim := { program := "ytjfnieenpiinlaa", sum := "b2cb4696f8832f0cc35f266b5e4dc28a91c554e14ac98ddd8f8b55642ec89511", func := "loop.example/pub-g03342/laws.FnNpBits", spec := "fnNpBits", inPlace := ["math/bits.Add64", "math/bits.Sub64"], apart := false, narrowed := true }
def FnNpBitsUptoSaid : Prop := fnNpBitsUptoRow.holds Try.pinned (OpenSpec.upto fnNpBitsSpec)

/-- 'laws.FnNpIsUint64', WHERE WHAT IT READS IS OF BULK AT MOST 1048576: true; the input reads as it did. -/
def fnNpIsUint64UptoRow : OpenClaim := { program := "ytjfnieenpiinlaa", sum := "b2cb4696f8832f0cc35f266b5e4dc28a91c554e14ac98ddd8f8b55642ec89511", func := "loop.example/pub-g03342/laws.FnNpIsUint64", spec := "fnNpIsUint64", inPlace := ["math/bits.Add64", "math/bits.Sub64"], apart := false, narrowed := true }
def FnNpIsUint64UptoSaid : Prop := fnNpIsUint64UptoRow.holds Try.pinned (OpenSpec.upto fnNpIsUint64Spec)

/-- 'laws.FnNpCmp', WHERE WHAT IT READS IS OF BULK AT MOST 1048576: true; the input reads as it did. -/
def fnNpCmpUptoRow : OpenClaim := { program := "ytjfnieenpiinlaa", sum := "b2cb4696f8832f0cc35f266b5e4dc28a91c554e14ac98ddd8f8b55642ec89511", func := "loop.example/pub-g03342/laws.FnNpCmp", spec := "fnNpCmp", inPlace := ["math/bits.Add64", "math/bits.Sub64"], apart := false, narrowed := true }
def FnNpCmpUptoSaid : Prop := fnNpCmpUptoRow.holds Try.pinned (OpenSpec.upto fnNpCmpSpec)

end Rows
end Go.Proofs.Ytjfnieenpiinlaa
