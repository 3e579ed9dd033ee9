/-
  No cell of these rows narrows 'for every input' (looked for: loops, veiled, ifaces, maps, wideKeys, modest, calm, conditions, laid).
  DERIVED. THE GIVEN ROWS OF THIS SEAT. 6 by the template 'for every input the law returns true; each argument reads behind the call as it read before'; 0 by the template 'total and deterministic' (their statements: YtnoaoehpmjljeaaTotals.lean).
  GIVEN WITH THE SEED: the statements are not yours to turn. If you find one false, say at which input.
  Laid BY PROGRAM, IN A SANDBOX (cutbox-rows.mjs): the forced cells as the released guide's own fill.sh prints them over the translation 932d03caa3f616c6… (all of the seat's roots in one cut). By AI agents, Wed Nov 11 2026. No macro, syntax, notation, axiom, sorry.
-/
import Derived.Test.YtnoaoehpmjljeaaChecked
import GoSem.Claim
import GoSem.ClaimJoined
import GoSem.ClaimMapViews
import Derived.JoinedTies
import Derived.KernelRfl
namespace Go.Proofs.Ytnoaoehpmjljeaa
/- THE CELL 'sum', in the pinned program and in every row, IS THE sha256 OF THE DUMP (.gsa) THAT YtnoaoehpmjljeaaProg.lean LOADS. Nothing in Lean hashes anything: it is a label: what it is worth is what the hold of that sum in a sandbox is worth. -/
noncomputable def Try.pinned : Pinned := { name := "ytnoaoehpmjljeaa", sum := "932d03caa3f616c6b9cd958b55f1259d1b5ce24d520cdf7760f50654f64783c4", checked := Try.checked }
namespace Rows
def none {H : Type} : Left H := { results := [], args := [] }

/-- 'laws.FnEscaped': WHATEVER THE INPUT: true; the input reads as it did. -/
def fnEscapedSpec : ChangeSpec := { name := "fnEscaped", fn := fun _ => fun
  | [d1, d2] => { results := [.lit (.bool true)], args := [d1, d2] }
  | _ => none }
def fnEscapedRow : OpenClaim := { program := "ytnoaoehpmjljeaa", sum := "932d03caa3f616c6b9cd958b55f1259d1b5ce24d520cdf7760f50654f64783c4", func := "pub-pamphlet/laws.FnEscaped", spec := "fnEscaped", apart := false }
def FnEscapedSaid : Prop := fnEscapedRow.holds Try.pinned (OpenSpec.ofChange fnEscapedSpec)

/-- ITS FALSE NEIGHBOUR: 'it returns false'. Refute it at one input. -/
def fnEscapedWrong : ChangeSpec := { name := "fnEscaped", fn := fun _ => fun
  | [d1, d2] => { results := [.lit (.bool false)], args := [d1, d2] }
  | _ => none }
def FnEscapedWrongFalsely : Prop := fnEscapedRow.holds Try.pinned (OpenSpec.ofChange fnEscapedWrong)

/-- 'laws.FnAnchorAgain': WHATEVER THE INPUT: true; the input reads as it did. -/
def fnAnchorAgainSpec : ChangeSpec := { name := "fnAnchorAgain", fn := fun _ => fun
  | [d] => { results := [.lit (.bool true)], args := [d] }
  | _ => none }
def fnAnchorAgainRow : OpenClaim := { program := "ytnoaoehpmjljeaa", sum := "932d03caa3f616c6b9cd958b55f1259d1b5ce24d520cdf7760f50654f64783c4", func := "pub-pamphlet/laws.FnAnchorAgain", spec := "fnAnchorAgain", apart := false }
def FnAnchorAgainSaid : Prop := fnAnchorAgainRow.holds Try.pinned (OpenSpec.ofChange fnAnchorAgainSpec)

/-- ITS FALSE NEIGHBOUR: 'it returns false'. Refute it at one input. -/
def fnAnchorAgainWrong : ChangeSpec := { name := "fnAnchorAgain", fn := fun _ => fun
  | [d] => { results := [.lit (.bool false)], args := [d] }
  | _ => none }
def FnAnchorAgainWrongFalsely : Prop := fnAnchorAgainRow.holds Try.pinned (OpenSpec.ofChange fnAnchorAgainWrong)

/-- 'laws.FnAnchorJoined': WHATEVER THE INPUT: true; the input reads as it did. -/
def fnAnchorJoinedSpec : ChangeSpec := { name := "fnAnchorJoined", fn := fun _ => fun
  | [d1, d2, d3] => { results := [.lit (.bool true)], args := [d1, d2, d3] }
  | _ => none }
def fnAnchorJoinedRow : OpenClaim := { program := "ytnoaoehpmjljeaa", sum := "932d03caa3f616c6b9cd958b55f1259d1b5ce24d520cdf7760f50654f64783c4", func := "pub-pamphlet/laws.FnAnchorJoined", spec := "fnAnchorJoined", apart := false }
def FnAnchorJoinedSaid : Prop := fnAnchorJoinedRow.holds Try.pinned (OpenSpec.ofChange fnAnchorJoinedSpec)

/-- ITS FALSE NEIGHBOUR: 'it returns false'. Refute it at one input. -/
def fnAnchorJoinedWrong : ChangeSpec := { name := "fnAnchorJoined", fn := fun _ => fun
  | [d1, d2, d3] => { results := [.lit (.bool false)], args := [d1, d2, d3] }
  | _ => none }
def FnAnchorJoinedWrongFalsely : Prop := fnAnchorJoinedRow.holds Try.pinned (OpenSpec.ofChange fnAnchorJoinedWrong)

/-- 'laws.FnAnchorTrimmed': WHATEVER THE INPUT: true; the input reads as it did. -/
def fnAnchorTrimmedSpec : ChangeSpec := { name := "fnAnchorTrimmed", fn := fun _ => fun
  | [d1, d2, d3] => { results := [.lit (.bool true)], args := [d1, d2, d3] }
  | _ => none }
def fnAnchorTrimmedRow : OpenClaim := { program := "ytnoaoehpmjljeaa", sum := "932d03caa3f616c6b9cd958b55f1259d1b5ce24d520cdf7760f50654f64783c4", func := "pub-pamphlet/laws.FnAnchorTrimmed", spec := "fnAnchorTrimmed", apart := false }
def FnAnchorTrimmedSaid : Prop := fnAnchorTrimmedRow.holds Try.pinned (OpenSpec.ofChange fnAnchorTrimmedSpec)

/-- ITS FALSE NEIGHBOUR: 'it returns false'. Refute it at one input. -/
def fnAnchorTrimmedWrong : ChangeSpec := { name := "fnAnchorTrimmed", fn := fun _ => fun
  | [d1, d2, d3] => { results := [.lit (.bool false)], args := [d1, d2, d3] }
  | _ => none }
def FnAnchorTrimmedWrongFalsely : Prop := fnAnchorTrimmedRow.holds Try.pinned (OpenSpec.ofChange fnAnchorTrimmedWrong)

/-- 'laws.FnRelative': WHATEVER THE INPUT: true; the input reads as it did. -/
def fnRelativeSpec : ChangeSpec := { name := "fnRelative", fn := fun _ => fun
  | [d] => { results := [.lit (.bool true)], args := [d] }
  | _ => none }
def fnRelativeRow : OpenClaim := { program := "ytnoaoehpmjljeaa", sum := "932d03caa3f616c6b9cd958b55f1259d1b5ce24d520cdf7760f50654f64783c4", func := "pub-pamphlet/laws.FnRelative", spec := "fnRelative", apart := false }
def FnRelativeSaid : Prop := fnRelativeRow.holds Try.pinned (OpenSpec.ofChange fnRelativeSpec)

/-- ITS FALSE NEIGHBOUR: 'it returns false'. Refute it at one input. -/
def fnRelativeWrong : ChangeSpec := { name := "fnRelative", fn := fun _ => fun
  | [d] => { results := [.lit (.bool false)], args := [d] }
  | _ => none }
def FnRelativeWrongFalsely : Prop := fnRelativeRow.holds Try.pinned (OpenSpec.ofChange fnRelativeWrong)

/-- 'laws.FnSlugAgain': WHATEVER THE INPUT: true; the input reads as it did. -/
def fnSlugAgainSpec : ChangeSpec := { name := "fnSlugAgain", fn := fun _ => fun
  | [d] => { results := [.lit (.bool true)], args := [d] }
  | _ => none }
def fnSlugAgainRow : OpenClaim := { program := "ytnoaoehpmjljeaa", sum := "932d03caa3f616c6b9cd958b55f1259d1b5ce24d520cdf7760f50654f64783c4", func := "pub-pamphlet/laws.FnSlugAgain", spec := "fnSlugAgain", apart := false }
def FnSlugAgainSaid : Prop := fnSlugAgainRow.holds Try.pinned (OpenSpec.ofChange fnSlugAgainSpec)

/-- ITS FALSE NEIGHBOUR: 'it returns false'. Refute it at one input. -/
def fnSlugAgainWrong : ChangeSpec := { name := "fnSlugAgain", fn := fun _ => fun
  | [d] => { results := [.lit (.bool false)], args := [d] }
  | _ => none }
def FnSlugAgainWrongFalsely : Prop := fnSlugAgainRow.holds Try.pinned (OpenSpec.ofChange fnSlugAgainWrong)

/- THE SECOND FORM. 'bulk': how many values and letters a reading holds, each counted each time it is reached (what is shared counts as often as it is met; a slice's spare places count too). A statement '..UptoSaid' is the law's where the arguments, and the package variables that the reading takes, are together of bulk at most 1048576: NARROWER than '..Said'. Prove '..Said' where nothing that the law and all that it calls make is longer than what came in: it says more and counts as full. Else prove '..UptoSaid'. A law counts once. -/
mutual
def uptoBulk {H : Type} : DataW H → Nat
  | .lit (.string bytes) => bytes.length + 1
  | .lit _ => 1
  | .nil => 1
  | .ptr d => uptoBulk d + 1
  | .slice elems spare => uptoBulkAll elems + uptoBulkAll spare + 1
  | .agg parts => uptoBulkAll parts + 1
  | .iface _ d => uptoBulk d + 1
  | .map entries => uptoBulkEntries entries + 1
  | .held _ => 1
def uptoBulkAll {H : Type} : List (DataW H) → Nat
  | [] => 0
  | d :: r => uptoBulk d + uptoBulkAll r
def uptoBulkEntries {H : Type} : List (Lit × DataW H) → Nat
  | [] => 0
  | x :: r => uptoBulkEntry x + uptoBulkEntries r
def uptoBulkEntry {H : Type} : Lit × DataW H → Nat
  | (.string bytes, d) => bytes.length + uptoBulk d + 1
  | (_, d) => uptoBulk d + 1
 end
def uptoSmall : (H : Type) → List (DataW H) → Bool := fun _ ds => decide (uptoBulkAll ds ≤ 1048576)
def OpenSpec.upto (s : _root_.Go.ChangeSpec) : _root_.Go.OpenSpec := { _root_.Go.OpenSpec.ofChange s with cond := some uptoSmall }

/-- 'laws.FnEscaped', WHERE WHAT IT READS IS OF BULK AT MOST 1048576: true; the input reads as it did. -/
def fnEscapedUptoRow : OpenClaim := { program := "ytnoaoehpmjljeaa", sum := "932d03caa3f616c6b9cd958b55f1259d1b5ce24d520cdf7760f50654f64783c4", func := "pub-pamphlet/laws.FnEscaped", spec := "fnEscaped", apart := false, narrowed := true }
def FnEscapedUptoSaid : Prop := fnEscapedUptoRow.holds Try.pinned (OpenSpec.upto fnEscapedSpec)

/-- 'laws.FnAnchorAgain', WHERE WHAT IT READS IS OF BULK AT MOST 1048576: true; the input reads as it did. -/
def fnAnchorAgainUptoRow : OpenClaim := { program := "ytnoaoehpmjljeaa", sum := "932d03caa3f616c6b9cd958b55f1259d1b5ce24d520cdf7760f50654f64783c4", func := "pub-pamphlet/laws.FnAnchorAgain", spec := "fnAnchorAgain", apart := false, narrowed := true }
def FnAnchorAgainUptoSaid : Prop := fnAnchorAgainUptoRow.holds Try.pinned (OpenSpec.upto fnAnchorAgainSpec)

/-- 'laws.FnAnchorJoined', WHERE WHAT IT READS IS OF BULK AT MOST 1048576: true; the input reads as it did. -/
def fnAnchorJoinedUptoRow : OpenClaim := { program := "ytnoaoehpmjljeaa", sum := "932d03caa3f616c6b9cd958b55f1259d1b5ce24d520cdf7760f50654f64783c4", func := "pub-pamphlet/laws.FnAnchorJoined", spec := "fnAnchorJoined", apart := false, narrowed := true }
def FnAnchorJoinedUptoSaid : Prop := fnAnchorJoinedUptoRow.holds Try.pinned (OpenSpec.upto fnAnchorJoinedSpec)

/-- 'laws.FnAnchorTrimmed', WHERE WHAT IT READS IS OF BULK AT MOST 1048576: true; the input reads as it did. -/
def fnAnchorTrimmedUptoRow : OpenClaim := { program := "ytnoaoehpmjljeaa", sum := "932d03caa3f616c6b9cd958b55f1259d1b5ce24d520cdf7760f50654f64783c4", func := "pub-pamphlet/laws.FnAnchorTrimmed", spec := "fnAnchorTrimmed", apart := false, narrowed := true }
def FnAnchorTrimmedUptoSaid : Prop := fnAnchorTrimmedUptoRow.holds Try.pinned (OpenSpec.upto fnAnchorTrimmedSpec)

/-- 'laws.FnRelative', WHERE WHAT IT READS IS OF BULK AT MOST 1048576: true; the input reads as it did. -/
def fnRelativeUptoRow : OpenClaim := { program := "ytnoaoehpmjljeaa", sum := "932d03caa3f616c6b9cd958b55f1259d1b5ce24d520cdf7760f50654f64783c4", func := "pub-pamphlet/laws.FnRelative", spec := "fnRelative", apart := false, narrowed := true }
def FnRelativeUptoSaid : Prop := fnRelativeUptoRow.holds Try.pinned (OpenSpec.upto fnRelativeSpec)

/-- 'laws.FnSlugAgain', WHERE WHAT IT READS IS OF BULK AT MOST 1048576: true; the input reads as it did. -/
def fnSlugAgainUptoRow : OpenClaim := { program := "ytnoaoehpmjljeaa", sum := "932d03caa3f616c6b9cd958b55f1259d1b5ce24d520cdf7760f50654f64783c4", func := "pub-pamphlet/laws.FnSlugAgain", spec := "fnSlugAgain", apart := false, narrowed := true }
def FnSlugAgainUptoSaid : Prop := fnSlugAgainUptoRow.holds Try.pinned (OpenSpec.upto fnSlugAgainSpec)

end Rows
end Go.Proofs.Ytnoaoehpmjljeaa
