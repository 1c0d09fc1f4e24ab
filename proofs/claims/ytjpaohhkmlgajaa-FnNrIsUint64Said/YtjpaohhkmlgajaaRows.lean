/-
  No cell of these rows narrows 'for every input' (looked for: loops, veiled, ifaces, maps, wideKeys, modest, calm, conditions, laid).
  DERIVED. THE GIVEN ROWS OF THIS SEAT. 3 by the template 'for every input the law returns true; each argument reads behind the call as it read before'; 0 by the template 'total and deterministic' (their statements: YtjpaohhkmlgajaaTotals.lean).
  GIVEN WITH THE SEED: the statements are not yours to turn. If you find one false, say at which input.
  Laid BY PROGRAM, IN A SANDBOX (cutbox-rows.mjs): the forced cells as the released guide's own fill.sh prints them over the translation 07e007d026416f3c… (all of the seat's roots in one cut). By AI agents, Wed Nov 11 2026. No macro, syntax, notation, axiom, sorry.
-/
import Derived.Test.YtjpaohhkmlgajaaChecked
import GoSem.Claim
import GoSem.ClaimJoined
import GoSem.ClaimMapViews
import Derived.JoinedTies
import Derived.KernelRfl
namespace Go.Proofs.Ytjpaohhkmlgajaa
/- THE CELL 'sum', in the pinned program and in every row, IS THE sha256 OF THE DUMP (.gsa) THAT YtjpaohhkmlgajaaProg.lean LOADS. Nothing in Lean hashes anything: it is a label: what it is worth is what the hold of that sum in a sandbox is worth. -/
noncomputable def Try.pinned : Pinned := { name := "ytjpaohhkmlgajaa", sum := "07e007d026416f3c2ceaf7e09b32b42bb950254022cc9142ea37f6d24252e27c", checked := Try.checked }
namespace Rows
def none {H : Type} : Left H := { results := [], args := [] }

/-- 'laws.FnNrBits': WHATEVER THE INPUT: true; the input reads as it did. -/
def fnNrBitsSpec : ChangeSpec := { name := "fnNrBits", fn := fun _ => fun
  | [d] => { results := [.lit (.bool true)], args := [d] }
  | _ => none }
def fnNrBitsRow : OpenClaim := { program := "ytjpaohhkmlgajaa", sum := "07e007d026416f3c2ceaf7e09b32b42bb950254022cc9142ea37f6d24252e27c", func := "loop.example/pub-g03342/laws.FnNrBits", spec := "fnNrBits", inPlace := ["math/bits.Add64", "math/bits.Sub64"], apart := false }
def FnNrBitsSaid : Prop := fnNrBitsRow.holds Try.pinned (OpenSpec.ofChange fnNrBitsSpec)

/-- ITS FALSE NEIGHBOUR: 'it returns false'. Refute it at one input. -/
def fnNrBitsWrong : ChangeSpec := { name := "fnNrBits", fn := fun _ => fun
  | [d] => { results := [.lit (.bool false)], args := [d] }
  | _ => none }
def FnNrBitsWrongFalsely : Prop := fnNrBitsRow.holds Try.pinned (OpenSpec.ofChange fnNrBitsWrong)

/-- 'laws.FnNrIsUint64': WHATEVER THE INPUT: true; the input reads as it did. -/
def fnNrIsUint64Spec : ChangeSpec := { name := "fnNrIsUint64", fn := fun _ => fun
  | [d] => { results := [.lit (.bool true)], args := [d] }
  | _ => none }
def fnNrIsUint64Row : OpenClaim := { program := "ytjpaohhkmlgajaa", sum := "07e007d026416f3c2ceaf7e09b32b42bb950254022cc9142ea37f6d24252e27c", func := "loop.example/pub-g03342/laws.FnNrIsUint64", spec := "fnNrIsUint64", inPlace := ["math/bits.Add64", "math/bits.Sub64"], apart := false }
def FnNrIsUint64Said : Prop := fnNrIsUint64Row.holds Try.pinned (OpenSpec.ofChange fnNrIsUint64Spec)

/-- ITS FALSE NEIGHBOUR: 'it returns false'. Refute it at one input. -/
def fnNrIsUint64Wrong : ChangeSpec := { name := "fnNrIsUint64", fn := fun _ => fun
  | [d] => { results := [.lit (.bool false)], args := [d] }
  | _ => none }
def FnNrIsUint64WrongFalsely : Prop := fnNrIsUint64Row.holds Try.pinned (OpenSpec.ofChange fnNrIsUint64Wrong)

/-- 'laws.FnNrCmp': WHATEVER THE INPUT: true; the input reads as it did. -/
def fnNrCmpSpec : ChangeSpec := { name := "fnNrCmp", fn := fun _ => fun
  | [d1, d2] => { results := [.lit (.bool true)], args := [d1, d2] }
  | _ => none }
def fnNrCmpRow : OpenClaim := { program := "ytjpaohhkmlgajaa", sum := "07e007d026416f3c2ceaf7e09b32b42bb950254022cc9142ea37f6d24252e27c", func := "loop.example/pub-g03342/laws.FnNrCmp", spec := "fnNrCmp", inPlace := ["math/bits.Add64", "math/bits.Sub64"], apart := false }
def FnNrCmpSaid : Prop := fnNrCmpRow.holds Try.pinned (OpenSpec.ofChange fnNrCmpSpec)

/-- ITS FALSE NEIGHBOUR: 'it returns false'. Refute it at one input. -/
def fnNrCmpWrong : ChangeSpec := { name := "fnNrCmp", fn := fun _ => fun
  | [d1, d2] => { results := [.lit (.bool false)], args := [d1, d2] }
  | _ => none }
def FnNrCmpWrongFalsely : Prop := fnNrCmpRow.holds Try.pinned (OpenSpec.ofChange fnNrCmpWrong)

/- THE SECOND FORM. 'bulk': how many values and letters a reading holds, each counted each time it is reached (what is shared counts as often as it is met; a slice's spare places count too). A statement '..UptoSaid' is the law's where the arguments, and the package variables that the reading takes, are together of bulk at most 1048576: NARROWER than '..Said'. Prove '..Said' where nothing that the law and all that it calls make is longer than what came in: it says more and counts as full. Else prove '..UptoSaid'. A law counts once. -/
mutual
def uptoBulk {H : Type} : DataW H → Nat
  | .lit (.string bytes) => bytes.length + 1
  | .lit _ => 1
  | .nil => 1
  | .ptr d => uptoBulk d + 1
  | .slice elems spare => uptoBulkAll elems + uptoBulkAll spare + 1
  | .agg parts => uptoBulkAll parts + 1
  | .iface _ d => uptoBulk d + 1
  | .map entries => uptoBulkEntries entries + 1
  | .held _ => 1
def uptoBulkAll {H : Type} : List (DataW H) → Nat
  | [] => 0
  | d :: r => uptoBulk d + uptoBulkAll r
def uptoBulkEntries {H : Type} : List (Lit × DataW H) → Nat
  | [] => 0
  | x :: r => uptoBulkEntry x + uptoBulkEntries r
def uptoBulkEntry {H : Type} : Lit × DataW H → Nat
  | (.string bytes, d) => bytes.length + uptoBulk d + 1
  | (_, d) => uptoBulk d + 1
 end
def uptoSmall : (H : Type) → List (DataW H) → Bool := fun _ ds => decide (uptoBulkAll ds ≤ 1048576)
def OpenSpec.upto (s : _root_.Go.ChangeSpec) : _root_.Go.OpenSpec := { _root_.Go.OpenSpec.ofChange s with cond := some uptoSmall }

/-- 'laws.FnNrBits', WHERE WHAT IT READS IS OF BULK AT MOST 1048576: true; the input reads as it did. -/
def fnNrBitsUptoRow : OpenClaim := { program := "ytjpaohhkmlgajaa", sum := "07e007d026416f3c2ceaf7e09b32b42bb950254022cc9142ea37f6d24252e27c", func := "loop.example/pub-g03342/laws.FnNrBits", spec := "fnNrBits", inPlace := ["math/bits.Add64", "math/bits.Sub64"], apart := false, narrowed := true }
def FnNrBitsUptoSaid : Prop := fnNrBitsUptoRow.holds Try.pinned (OpenSpec.upto fnNrBitsSpec)

/-- 'laws.FnNrIsUint64', WHERE WHAT IT READS IS OF BULK AT MOST 1048576: true; the input reads as it did. -/
def fnNrIsUint64UptoRow : OpenClaim := { program := "ytjpaohhkmlgajaa", sum := "07e007d026416f3c2ceaf7e09b32b42bb950254022cc9142ea37f6d24252e27c", func := "loop.example/pub-g03342/laws.FnNrIsUint64", spec := "fnNrIsUint64", inPlace := ["math/bits.Add64", "math/bits.Sub64"], apart := false, narrowed := true }
def FnNrIsUint64UptoSaid : Prop := fnNrIsUint64UptoRow.holds Try.pinned (OpenSpec.upto fnNrIsUint64Spec)

/-- 'laws.FnNrCmp', WHERE WHAT IT READS IS OF BULK AT MOST 1048576: true; the input reads as it did. -/
def fnNrCmpUptoRow : OpenClaim := { program := "ytjpaohhkmlgajaa", sum := "07e007d026416f3c2ceaf7e09b32b42bb950254022cc9142ea37f6d24252e27c", func := "loop.example/pub-g03342/laws.FnNrCmp", spec := "fnNrCmp", inPlace := ["math/bits.Add64", "math/bits.Sub64"], apart := false, narrowed := true }
def FnNrCmpUptoSaid : Prop := fnNrCmpUptoRow.holds Try.pinned (OpenSpec.upto fnNrCmpSpec)

end Rows
end Go.Proofs.Ytjpaohhkmlgajaa
