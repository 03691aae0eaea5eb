/-
  No cell of these rows narrows 'for every input' (looked for: loops, veiled, ifaces, maps, wideKeys, modest, calm, conditions, laid).
  DERIVED. THE GIVEN ROWS OF THIS SEAT. 6 by the template 'for every input the law returns true; each argument reads behind the call as it read before'; 0 by the template 'total and deterministic' (their statements: YtfpfpdjnmfiffaaTotals.lean).
  GIVEN WITH THE SEED: the statements are not yours to turn. If you find one false, say at which input.
  Laid BY PROGRAM, IN A SANDBOX (cutbox-rows.mjs): the forced cells as the released guide's own fill.sh prints them over the translation dfd8dbc48a4d9213… (all of the seat's roots in one cut). By AI agents, Wed Nov 11 2026. No macro, syntax, notation, axiom, sorry.
-/
import Derived.Test.YtfpfpdjnmfiffaaChecked
import GoSem.Claim
import GoSem.ClaimJoined
import GoSem.ClaimMapViews
import Derived.JoinedTies
import Derived.KernelRfl
namespace Go.Proofs.Ytfpfpdjnmfiffaa
/- THE CELL 'sum', in the pinned program and in every row, IS THE sha256 OF THE DUMP (.gsa) THAT YtfpfpdjnmfiffaaProg.lean LOADS. Nothing in Lean hashes anything: it is a label: what it is worth is what the hold of that sum in a sandbox is worth. -/
noncomputable def Try.pinned : Pinned := { name := "ytfpfpdjnmfiffaa", sum := "dfd8dbc48a4d92136e009a1dab185d4f62029c4c9fd0c2ec6f5e4545eb2bd1d9", checked := Try.checked }
namespace Rows
def none {H : Type} : Left H := { results := [], args := [] }

/-- 'laws.FnJoiner': WHATEVER THE INPUT: true; the input reads as it did. -/
def fnJoinerSpec : ChangeSpec := { name := "fnJoiner", fn := fun _ => fun
  | [d1, d2] => { results := [.lit (.bool true)], args := [d1, d2] }
  | _ => none }
def fnJoinerRow : OpenClaim := { program := "ytfpfpdjnmfiffaa", sum := "dfd8dbc48a4d92136e009a1dab185d4f62029c4c9fd0c2ec6f5e4545eb2bd1d9", func := "given.example/pub-stylewright/laws.FnJoiner", spec := "fnJoiner", apart := false }
def FnJoinerSaid : Prop := fnJoinerRow.holds Try.pinned (OpenSpec.ofChange fnJoinerSpec)

/-- ITS FALSE NEIGHBOUR: 'it returns false'. Refute it at one input. -/
def fnJoinerWrong : ChangeSpec := { name := "fnJoiner", fn := fun _ => fun
  | [d1, d2] => { results := [.lit (.bool false)], args := [d1, d2] }
  | _ => none }
def FnJoinerWrongFalsely : Prop := fnJoinerRow.holds Try.pinned (OpenSpec.ofChange fnJoinerWrong)

/-- 'laws.FnFound': WHATEVER THE INPUT: true; the input reads as it did. -/
def fnFoundSpec : ChangeSpec := { name := "fnFound", fn := fun _ => fun
  | [d1, d2, d3] => { results := [.lit (.bool true)], args := [d1, d2, d3] }
  | _ => none }
def fnFoundRow : OpenClaim := { program := "ytfpfpdjnmfiffaa", sum := "dfd8dbc48a4d92136e009a1dab185d4f62029c4c9fd0c2ec6f5e4545eb2bd1d9", func := "given.example/pub-stylewright/laws.FnFound", spec := "fnFound", apart := false }
def FnFoundSaid : Prop := fnFoundRow.holds Try.pinned (OpenSpec.ofChange fnFoundSpec)

/-- ITS FALSE NEIGHBOUR: 'it returns false'. Refute it at one input. -/
def fnFoundWrong : ChangeSpec := { name := "fnFound", fn := fun _ => fun
  | [d1, d2, d3] => { results := [.lit (.bool false)], args := [d1, d2, d3] }
  | _ => none }
def FnFoundWrongFalsely : Prop := fnFoundRow.holds Try.pinned (OpenSpec.ofChange fnFoundWrong)

/-- 'laws.FnPackageName': WHATEVER THE INPUT: true; the input reads as it did. -/
def fnPackageNameSpec : ChangeSpec := { name := "fnPackageName", fn := fun _ => fun
  | [d1, d2, d3] => { results := [.lit (.bool true)], args := [d1, d2, d3] }
  | _ => none }
def fnPackageNameRow : OpenClaim := { program := "ytfpfpdjnmfiffaa", sum := "dfd8dbc48a4d92136e009a1dab185d4f62029c4c9fd0c2ec6f5e4545eb2bd1d9", func := "given.example/pub-stylewright/laws.FnPackageName", spec := "fnPackageName", inPlace := ["internal/bytealg.IndexByteString"], apart := false }
def FnPackageNameSaid : Prop := fnPackageNameRow.holds Try.pinned (OpenSpec.ofChange fnPackageNameSpec)

/-- ITS FALSE NEIGHBOUR: 'it returns false'. Refute it at one input. -/
def fnPackageNameWrong : ChangeSpec := { name := "fnPackageName", fn := fun _ => fun
  | [d1, d2, d3] => { results := [.lit (.bool false)], args := [d1, d2, d3] }
  | _ => none }
def FnPackageNameWrongFalsely : Prop := fnPackageNameRow.holds Try.pinned (OpenSpec.ofChange fnPackageNameWrong)

/-- 'laws.FnLoose': WHATEVER THE INPUT: true; the input reads as it did. -/
def fnLooseSpec : ChangeSpec := { name := "fnLoose", fn := fun _ => fun
  | [d1, d2] => { results := [.lit (.bool true)], args := [d1, d2] }
  | _ => none }
def fnLooseRow : OpenClaim := { program := "ytfpfpdjnmfiffaa", sum := "dfd8dbc48a4d92136e009a1dab185d4f62029c4c9fd0c2ec6f5e4545eb2bd1d9", func := "given.example/pub-stylewright/laws.FnLoose", spec := "fnLoose", apart := false }
def FnLooseSaid : Prop := fnLooseRow.holds Try.pinned (OpenSpec.ofChange fnLooseSpec)

/-- ITS FALSE NEIGHBOUR: 'it returns false'. Refute it at one input. -/
def fnLooseWrong : ChangeSpec := { name := "fnLoose", fn := fun _ => fun
  | [d1, d2] => { results := [.lit (.bool false)], args := [d1, d2] }
  | _ => none }
def FnLooseWrongFalsely : Prop := fnLooseRow.holds Try.pinned (OpenSpec.ofChange fnLooseWrong)

/-- 'laws.FnClosed': WHATEVER THE INPUT: true; the input reads as it did. -/
def fnClosedSpec : ChangeSpec := { name := "fnClosed", fn := fun _ => fun
  | [d] => { results := [.lit (.bool true)], args := [d] }
  | _ => none }
def fnClosedRow : OpenClaim := { program := "ytfpfpdjnmfiffaa", sum := "dfd8dbc48a4d92136e009a1dab185d4f62029c4c9fd0c2ec6f5e4545eb2bd1d9", func := "given.example/pub-stylewright/laws.FnClosed", spec := "fnClosed", inPlace := ["internal/abi.NoEscape"], apart := false }
def FnClosedSaid : Prop := fnClosedRow.holds Try.pinned (OpenSpec.ofChange fnClosedSpec)

/-- ITS FALSE NEIGHBOUR: 'it returns false'. Refute it at one input. -/
def fnClosedWrong : ChangeSpec := { name := "fnClosed", fn := fun _ => fun
  | [d] => { results := [.lit (.bool false)], args := [d] }
  | _ => none }
def FnClosedWrongFalsely : Prop := fnClosedRow.holds Try.pinned (OpenSpec.ofChange fnClosedWrong)

/-- 'laws.FnGlobbed': WHATEVER THE INPUT: true; the input reads as it did. -/
def fnGlobbedSpec : ChangeSpec := { name := "fnGlobbed", fn := fun _ => fun
  | [d1, d2] => { results := [.lit (.bool true)], args := [d1, d2] }
  | _ => none }
def fnGlobbedRow : OpenClaim := { program := "ytfpfpdjnmfiffaa", sum := "dfd8dbc48a4d92136e009a1dab185d4f62029c4c9fd0c2ec6f5e4545eb2bd1d9", func := "given.example/pub-stylewright/laws.FnGlobbed", spec := "fnGlobbed", inPlace := ["internal/bytealg.IndexByteString", "internal/abi.NoEscape"], apart := false }
def FnGlobbedSaid : Prop := fnGlobbedRow.holds Try.pinned (OpenSpec.ofChange fnGlobbedSpec)

/-- ITS FALSE NEIGHBOUR: 'it returns false'. Refute it at one input. -/
def fnGlobbedWrong : ChangeSpec := { name := "fnGlobbed", fn := fun _ => fun
  | [d1, d2] => { results := [.lit (.bool false)], args := [d1, d2] }
  | _ => none }
def FnGlobbedWrongFalsely : Prop := fnGlobbedRow.holds Try.pinned (OpenSpec.ofChange fnGlobbedWrong)

/- THE SECOND FORM. 'bulk': how many values and letters a reading holds, each counted each time it is reached (what is shared counts as often as it is met; a slice's spare places count too). A statement '..UptoSaid' is the law's where the arguments, and the package variables that the reading takes, are together of bulk at most 1048576: NARROWER than '..Said'. Prove '..Said' where nothing that the law and all that it calls make is longer than what came in: it says more and counts as full. Else prove '..UptoSaid'. A law counts once. -/
mutual
def uptoBulk {H : Type} : DataW H → Nat
  | .lit (.string bytes) => bytes.length + 1
  | .lit _ => 1
  | .nil => 1
  | .ptr d => uptoBulk d + 1
  | .slice elems spare => uptoBulkAll elems + uptoBulkAll spare + 1
  | .agg parts => uptoBulkAll parts + 1
  | .iface _ d => uptoBulk d + 1
  | .map entries => uptoBulkEntries entries + 1
  | .held _ => 1
def uptoBulkAll {H : Type} : List (DataW H) → Nat
  | [] => 0
  | d :: r => uptoBulk d + uptoBulkAll r
def uptoBulkEntries {H : Type} : List (Lit × DataW H) → Nat
  | [] => 0
  | x :: r => uptoBulkEntry x + uptoBulkEntries r
def uptoBulkEntry {H : Type} : Lit × DataW H → Nat
  | (.string bytes, d) => bytes.length + uptoBulk d + 1
  | (_, d) => uptoBulk d + 1
 end
def uptoSmall : (H : Type) → List (DataW H) → Bool := fun _ ds => decide (uptoBulkAll ds ≤ 1048576)
def OpenSpec.upto (s : _root_.Go.ChangeSpec) : _root_.Go.OpenSpec := { _root_.Go.OpenSpec.ofChange s with cond := some uptoSmall }

/-- 'laws.FnJoiner', WHERE WHAT IT READS IS OF BULK AT MOST 1048576: true; the input reads as it did. -/
def fnJoinerUptoRow : OpenClaim := { program := "ytfpfpdjnmfiffaa", sum := "dfd8dbc48a4d92136e009a1dab185d4f62029c4c9fd0c2ec6f5e4545eb2bd1d9", func := "given.example/pub-stylewright/laws.FnJoiner", spec := "fnJoiner", apart := false, narrowed := true }
def FnJoinerUptoSaid : Prop := fnJoinerUptoRow.holds Try.pinned (OpenSpec.upto fnJoinerSpec)

/-- 'laws.FnFound', WHERE WHAT IT READS IS OF BULK AT MOST 1048576: true; the input reads as it did. -/
def fnFoundUptoRow : OpenClaim := { program := "ytfpfpdjnmfiffaa", sum := "dfd8dbc48a4d92136e009a1dab185d4f62029c4c9fd0c2ec6f5e4545eb2bd1d9", func := "given.example/pub-stylewright/laws.FnFound", spec := "fnFound", apart := false, narrowed := true }
def FnFoundUptoSaid : Prop := fnFoundUptoRow.holds Try.pinned (OpenSpec.upto fnFoundSpec)

/-- 'laws.FnPackageName', WHERE WHAT IT READS IS OF BULK AT MOST 1048576: true; the input reads as it did. -/
def fnPackageNameUptoRow : OpenClaim := { program := "ytfpfpdjnmfiffaa", sum := "dfd8dbc48a4d92136e009a1dab185d4f62029c4c9fd0c2ec6f5e4545eb2bd1d9", func := "given.example/pub-stylewright/laws.FnPackageName", spec := "fnPackageName", inPlace := ["internal/bytealg.IndexByteString"], apart := false, narrowed := true }
def FnPackageNameUptoSaid : Prop := fnPackageNameUptoRow.holds Try.pinned (OpenSpec.upto fnPackageNameSpec)

/-- 'laws.FnLoose', WHERE WHAT IT READS IS OF BULK AT MOST 1048576: true; the input reads as it did. -/
def fnLooseUptoRow : OpenClaim := { program := "ytfpfpdjnmfiffaa", sum := "dfd8dbc48a4d92136e009a1dab185d4f62029c4c9fd0c2ec6f5e4545eb2bd1d9", func := "given.example/pub-stylewright/laws.FnLoose", spec := "fnLoose", apart := false, narrowed := true }
def FnLooseUptoSaid : Prop := fnLooseUptoRow.holds Try.pinned (OpenSpec.upto fnLooseSpec)

/-- 'laws.FnClosed', WHERE WHAT IT READS IS OF BULK AT MOST 1048576: true; the input reads as it did. -/
def fnClosedUptoRow : OpenClaim := { program := "ytfpfpdjnmfiffaa", sum := "dfd8dbc48a4d92136e009a1dab185d4f62029c4c9fd0c2ec6f5e4545eb2bd1d9", func := "given.example/pub-stylewright/laws.FnClosed", spec := "fnClosed", inPlace := ["internal/abi.NoEscape"], apart := false, narrowed := true }
def FnClosedUptoSaid : Prop := fnClosedUptoRow.holds Try.pinned (OpenSpec.upto fnClosedSpec)

/-- 'laws.FnGlobbed', WHERE WHAT IT READS IS OF BULK AT MOST 1048576: true; the input reads as it did. -/
def fnGlobbedUptoRow : OpenClaim := { program := "ytfpfpdjnmfiffaa", sum := "dfd8dbc48a4d92136e009a1dab185d4f62029c4c9fd0c2ec6f5e4545eb2bd1d9", func := "given.example/pub-stylewright/laws.FnGlobbed", spec := "fnGlobbed", inPlace := ["internal/bytealg.IndexByteString", "internal/abi.NoEscape"], apart := false, narrowed := true }
def FnGlobbedUptoSaid : Prop := fnGlobbedUptoRow.holds Try.pinned (OpenSpec.upto fnGlobbedSpec)

end Rows
end Go.Proofs.Ytfpfpdjnmfiffaa
