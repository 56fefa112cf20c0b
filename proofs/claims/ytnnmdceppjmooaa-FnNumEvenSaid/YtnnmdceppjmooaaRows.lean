/-
  No cell of these rows narrows 'for every input' (looked for: loops, veiled, ifaces, maps, wideKeys, modest, calm, conditions, laid).
  DERIVED. THE GIVEN ROWS OF THIS SEAT. 4 by the template 'for every input the law returns true; each argument reads behind the call as it read before'; 0 by the template 'total and deterministic' (their statements: YtnnmdceppjmooaaTotals.lean).
  GIVEN WITH THE SEED: the statements are not yours to turn. If you find one false, say at which input.
  Laid BY PROGRAM, IN A SANDBOX (cutbox-rows.mjs): the forced cells as the released guide's own fill.sh prints them over the translation 6a17b3b2b4b0a15e… (all of the seat's roots in one cut). By AI agents, Wed Nov 11 2026. No macro, syntax, notation, axiom, sorry.
-/
import Derived.Test.YtnnmdceppjmooaaChecked
import GoSem.Claim
import GoSem.ClaimJoined
import GoSem.ClaimMapViews
import Derived.JoinedTies
import Derived.KernelRfl
namespace Go.Proofs.Ytnnmdceppjmooaa
/- THE CELL 'sum', in the pinned program and in every row, IS THE sha256 OF THE DUMP (.gsa) THAT YtnnmdceppjmooaaProg.lean LOADS. Nothing in Lean hashes anything: it is a label: what it is worth is what the hold of that sum in a sandbox is worth. -/
noncomputable def Try.pinned : Pinned := { name := "ytnnmdceppjmooaa", sum := "6a17b3b2b4b0a15ebc9340ec034c0ef587fa15ae1c54846b3de124988bbf8171", checked := Try.checked }
namespace Rows
def none {H : Type} : Left H := { results := [], args := [] }

/-- 'laws.FnNumBitOr': WHATEVER THE INPUT: true; the input reads as it did. -/
def fnNumBitOrSpec : ChangeSpec := { name := "fnNumBitOr", fn := fun _ => fun
  | [d1, d2] => { results := [.lit (.bool true)], args := [d1, d2] }
  | _ => none }
def fnNumBitOrRow : OpenClaim := { program := "ytnnmdceppjmooaa", sum := "6a17b3b2b4b0a15ebc9340ec034c0ef587fa15ae1c54846b3de124988bbf8171", func := "given.example/pub-rondel/laws.FnNumBitOr", spec := "fnNumBitOr", inPlace := ["math.Float64bits", "math.Float64frombits", "math.archTrunc"], unfollowed := true, recurses := true, plainKeys := false, apart := false }
def FnNumBitOrSaid : Prop := fnNumBitOrRow.holds Try.pinned (OpenSpec.ofChange fnNumBitOrSpec)

/-- ITS FALSE NEIGHBOUR: 'it returns false'. Refute it at one input. -/
def fnNumBitOrWrong : ChangeSpec := { name := "fnNumBitOr", fn := fun _ => fun
  | [d1, d2] => { results := [.lit (.bool false)], args := [d1, d2] }
  | _ => none }
def FnNumBitOrWrongFalsely : Prop := fnNumBitOrRow.holds Try.pinned (OpenSpec.ofChange fnNumBitOrWrong)

/-- 'laws.FnNumCeil': WHATEVER THE INPUT: true; the input reads as it did. -/
def fnNumCeilSpec : ChangeSpec := { name := "fnNumCeil", fn := fun _ => fun
  | [d] => { results := [.lit (.bool true)], args := [d] }
  | _ => none }
def fnNumCeilRow : OpenClaim := { program := "ytnnmdceppjmooaa", sum := "6a17b3b2b4b0a15ebc9340ec034c0ef587fa15ae1c54846b3de124988bbf8171", func := "given.example/pub-rondel/laws.FnNumCeil", spec := "fnNumCeil", inPlace := ["math.Float64bits", "math.Float64frombits", "math.archCeil", "math.archFloor", "math.archTrunc"], unfollowed := true, recurses := true, plainKeys := false, apart := false }
def FnNumCeilSaid : Prop := fnNumCeilRow.holds Try.pinned (OpenSpec.ofChange fnNumCeilSpec)

/-- ITS FALSE NEIGHBOUR: 'it returns false'. Refute it at one input. -/
def fnNumCeilWrong : ChangeSpec := { name := "fnNumCeil", fn := fun _ => fun
  | [d] => { results := [.lit (.bool false)], args := [d] }
  | _ => none }
def FnNumCeilWrongFalsely : Prop := fnNumCeilRow.holds Try.pinned (OpenSpec.ofChange fnNumCeilWrong)

/-- 'laws.FnNumEven': WHATEVER THE INPUT: true; the input reads as it did. -/
def fnNumEvenSpec : ChangeSpec := { name := "fnNumEven", fn := fun _ => fun
  | [d] => { results := [.lit (.bool true)], args := [d] }
  | _ => none }
def fnNumEvenRow : OpenClaim := { program := "ytnnmdceppjmooaa", sum := "6a17b3b2b4b0a15ebc9340ec034c0ef587fa15ae1c54846b3de124988bbf8171", func := "given.example/pub-rondel/laws.FnNumEven", spec := "fnNumEven", inPlace := ["math.archTrunc", "math.Float64bits", "math.Float64frombits"], unfollowed := true, recurses := true, plainKeys := false, apart := false }
def FnNumEvenSaid : Prop := fnNumEvenRow.holds Try.pinned (OpenSpec.ofChange fnNumEvenSpec)

/-- ITS FALSE NEIGHBOUR: 'it returns false'. Refute it at one input. -/
def fnNumEvenWrong : ChangeSpec := { name := "fnNumEven", fn := fun _ => fun
  | [d] => { results := [.lit (.bool false)], args := [d] }
  | _ => none }
def FnNumEvenWrongFalsely : Prop := fnNumEvenRow.holds Try.pinned (OpenSpec.ofChange fnNumEvenWrong)

/-- 'laws.FnNumsRemoveAt': WHATEVER THE INPUT: true; the input reads as it did. -/
def fnNumsRemoveAtSpec : ChangeSpec := { name := "fnNumsRemoveAt", fn := fun _ => fun
  | [d1, d2] => { results := [.lit (.bool true)], args := [d1, d2] }
  | _ => none }
def fnNumsRemoveAtRow : OpenClaim := { program := "ytnnmdceppjmooaa", sum := "6a17b3b2b4b0a15ebc9340ec034c0ef587fa15ae1c54846b3de124988bbf8171", func := "given.example/pub-rondel/laws.FnNumsRemoveAt", spec := "fnNumsRemoveAt", inPlace := ["math.Float64bits", "math.Float64frombits"], plainKeys := false, apart := false }
def FnNumsRemoveAtSaid : Prop := fnNumsRemoveAtRow.holds Try.pinned (OpenSpec.ofChange fnNumsRemoveAtSpec)

/-- ITS FALSE NEIGHBOUR: 'it returns false'. Refute it at one input. -/
def fnNumsRemoveAtWrong : ChangeSpec := { name := "fnNumsRemoveAt", fn := fun _ => fun
  | [d1, d2] => { results := [.lit (.bool false)], args := [d1, d2] }
  | _ => none }
def FnNumsRemoveAtWrongFalsely : Prop := fnNumsRemoveAtRow.holds Try.pinned (OpenSpec.ofChange fnNumsRemoveAtWrong)

/- THE SECOND FORM. 'bulk': how many values and letters a reading holds, each counted each time it is reached (what is shared counts as often as it is met; a slice's spare places count too). A statement '..UptoSaid' is the law's where the arguments, and the package variables that the reading takes, are together of bulk at most 1048576: NARROWER than '..Said'. Prove '..Said' where nothing that the law and all that it calls make is longer than what came in: it says more and counts as full. Else prove '..UptoSaid'. A law counts once. -/
mutual
def uptoBulk {H : Type} : DataW H → Nat
  | .lit (.string bytes) => bytes.length + 1
  | .lit _ => 1
  | .nil => 1
  | .ptr d => uptoBulk d + 1
  | .slice elems spare => uptoBulkAll elems + uptoBulkAll spare + 1
  | .agg parts => uptoBulkAll parts + 1
  | .iface _ d => uptoBulk d + 1
  | .map entries => uptoBulkEntries entries + 1
  | .held _ => 1
def uptoBulkAll {H : Type} : List (DataW H) → Nat
  | [] => 0
  | d :: r => uptoBulk d + uptoBulkAll r
def uptoBulkEntries {H : Type} : List (Lit × DataW H) → Nat
  | [] => 0
  | x :: r => uptoBulkEntry x + uptoBulkEntries r
def uptoBulkEntry {H : Type} : Lit × DataW H → Nat
  | (.string bytes, d) => bytes.length + uptoBulk d + 1
  | (_, d) => uptoBulk d + 1
 end
def uptoSmall : (H : Type) → List (DataW H) → Bool := fun _ ds => decide (uptoBulkAll ds ≤ 1048576)
def OpenSpec.upto (s : _root_.Go.ChangeSpec) : _root_.Go.OpenSpec := { _root_.Go.OpenSpec.ofChange s with cond := some uptoSmall }

/-- 'laws.FnNumBitOr', WHERE WHAT IT READS IS OF BULK AT MOST 1048576: true; the input reads as it did. -/
def fnNumBitOrUptoRow : OpenClaim := { program := "ytnnmdceppjmooaa", sum := "6a17b3b2b4b0a15ebc9340ec034c0ef587fa15ae1c54846b3de124988bbf8171", func := "given.example/pub-rondel/laws.FnNumBitOr", spec := "fnNumBitOr", inPlace := ["math.Float64bits", "math.Float64frombits", "math.archTrunc"], unfollowed := true, recurses := true, plainKeys := false, apart := false, narrowed := true }
def FnNumBitOrUptoSaid : Prop := fnNumBitOrUptoRow.holds Try.pinned (OpenSpec.upto fnNumBitOrSpec)

/-- 'laws.FnNumCeil', WHERE WHAT IT READS IS OF BULK AT MOST 1048576: true; the input reads as it did. -/
def fnNumCeilUptoRow : OpenClaim := { program := "ytnnmdceppjmooaa", sum := "6a17b3b2b4b0a15ebc9340ec034c0ef587fa15ae1c54846b3de124988bbf8171", func := "given.example/pub-rondel/laws.FnNumCeil", spec := "fnNumCeil", inPlace := ["math.Float64bits", "math.Float64frombits", "math.archCeil", "math.archFloor", "math.archTrunc"], unfollowed := true, recurses := true, plainKeys := false, apart := false, narrowed := true }
def FnNumCeilUptoSaid : Prop := fnNumCeilUptoRow.holds Try.pinned (OpenSpec.upto fnNumCeilSpec)

/-- 'laws.FnNumEven', WHERE WHAT IT READS IS OF BULK AT MOST 1048576: true; the input reads as it did. -/
def fnNumEvenUptoRow : OpenClaim := { program := "ytnnmdceppjmooaa", sum := "6a17b3b2b4b0a15ebc9340ec034c0ef587fa15ae1c54846b3de124988bbf8171", func := "given.example/pub-rondel/laws.FnNumEven", spec := "fnNumEven", inPlace := ["math.archTrunc", "math.Float64bits", "math.Float64frombits"], unfollowed := true, recurses := true, plainKeys := false, apart := false, narrowed := true }
def FnNumEvenUptoSaid : Prop := fnNumEvenUptoRow.holds Try.pinned (OpenSpec.upto fnNumEvenSpec)

/-- 'laws.FnNumsRemoveAt', WHERE WHAT IT READS IS OF BULK AT MOST 1048576: true; the input reads as it did. -/
def fnNumsRemoveAtUptoRow : OpenClaim := { program := "ytnnmdceppjmooaa", sum := "6a17b3b2b4b0a15ebc9340ec034c0ef587fa15ae1c54846b3de124988bbf8171", func := "given.example/pub-rondel/laws.FnNumsRemoveAt", spec := "fnNumsRemoveAt", inPlace := ["math.Float64bits", "math.Float64frombits"], plainKeys := false, apart := false, narrowed := true }
def FnNumsRemoveAtUptoSaid : Prop := fnNumsRemoveAtUptoRow.holds Try.pinned (OpenSpec.upto fnNumsRemoveAtSpec)

end Rows
end Go.Proofs.Ytnnmdceppjmooaa
