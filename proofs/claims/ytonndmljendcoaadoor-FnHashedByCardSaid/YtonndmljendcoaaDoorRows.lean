/-
  NARROWER THAN 'FOR EVERY INPUT', by the rows' own cells (each row's printed sentence says how): FnHashed: laid · FnHashedBy: laid.
  DERIVED. THE GIVEN ROWS OF THIS SEAT. 2 by the template 'for every input the law returns true; each argument reads behind the call as it read before'; 0 by the template 'total and deterministic' (their statements: YtonndmljendcoaaDoorTotals.lean).
  GIVEN WITH THE SEED: the statements are not yours to turn. If you find one false, say at which input.
  Laid BY PROGRAM, IN A SANDBOX (cutbox-rows.mjs): the forced cells as the released guide's own fill.sh prints them over the translation 38c0844e463758d5… (all of the seat's roots in one cut). By AI agents, Wed Nov 11 2026. No macro, syntax, notation, axiom, sorry.
-/
import Derived.Test.YtonndmljendcoaaDoorChecked
import GoSem.Claim
import GoSem.ClaimJoined
import GoSem.ClaimMapViews
import Derived.JoinedTies
import Derived.KernelRfl
namespace Go.Proofs.YtonndmljendcoaaDoor
/- THE CELL 'sum', in the pinned program and in every row, IS THE sha256 OF THE DUMP (.gsa) THAT YtonndmljendcoaaDoorProg.lean LOADS. Nothing in Lean hashes anything: it is a label: what it is worth is what the hold of that sum in a sandbox is worth. -/
noncomputable def Tryd.pinned : Pinned := { name := "ytonndmljendcoaadoor", sum := "38c0844e463758d5913d21cedd8394d2754dbc4ee98e952818e0ce187463a8c8", checked := Tryd.checked }
namespace Rows
def none {H : Type} : Left H := { results := [], args := [] }

/- WHAT THE LISTED PACKAGE-LEVEL VARIABLES READ AS WHEN THE CALL BEGINS. Each datum BY PROGRAM (the guide's laid-datum.mjs) off the statement by which the dump's own 'gosem.cut.vars' lays the variable. In a bare row this is a premise. The card (YtonndmljendcoaaDoorCards.lean) ties it to the program's text. -/
def laid_given_example_pub_stylewright_pub_esbuild_inner_xxhash_prime1v {H : Type} : DataW H := .lit (.int .u64 11400714785074694791)

/-- 'laws.FnHashed': WHATEVER THE INPUT: true; the input reads as it did. -/
def fnHashedSpec : ChangeSpec := { name := "fnHashed", vars := ["given.example/pub-stylewright/pub/esbuild/inner/xxhash.prime1v"], fn := fun _ => fun
  | [d, g1] => { results := [.lit (.bool true)], args := [d], vars := [g1] }
  | _ => none }
def fnHashedRow : OpenClaim := { program := "ytonndmljendcoaadoor", sum := "38c0844e463758d5913d21cedd8394d2754dbc4ee98e952818e0ce187463a8c8", func := "given.example/pub-stylewright/laws.FnHashed", spec := "fnHashed", named := ["given.example/pub-stylewright/pub/esbuild/inner/xxhash.prime1v", "encoding/binary.LittleEndian"], apart := false, laid := [("given.example/pub-stylewright/pub/esbuild/inner/xxhash.prime1v", laid_given_example_pub_stylewright_pub_esbuild_inner_xxhash_prime1v)] }
def FnHashedSaid : Prop := fnHashedRow.holds Tryd.pinned (OpenSpec.ofChange fnHashedSpec)

/-- ITS FALSE NEIGHBOUR: 'it returns false'. Refute it at one input. -/
def fnHashedWrong : ChangeSpec := { name := "fnHashed", vars := ["given.example/pub-stylewright/pub/esbuild/inner/xxhash.prime1v"], fn := fun _ => fun
  | [d, g1] => { results := [.lit (.bool false)], args := [d], vars := [g1] }
  | _ => none }
def FnHashedWrongFalsely : Prop := fnHashedRow.holds Tryd.pinned (OpenSpec.ofChange fnHashedWrong)

/-- 'laws.FnHashedBy': WHATEVER THE INPUT: true; the input reads as it did. -/
def fnHashedBySpec : ChangeSpec := { name := "fnHashedBy", vars := ["given.example/pub-stylewright/pub/esbuild/inner/xxhash.prime1v"], fn := fun _ => fun
  | [d, g1] => { results := [.lit (.bool true)], args := [d], vars := [g1] }
  | _ => none }
def fnHashedByRow : OpenClaim := { program := "ytonndmljendcoaadoor", sum := "38c0844e463758d5913d21cedd8394d2754dbc4ee98e952818e0ce187463a8c8", func := "given.example/pub-stylewright/laws.FnHashedBy", spec := "fnHashedBy", unfollowed := true, recurses := true, named := ["given.example/pub-stylewright/pub/esbuild/inner/xxhash.prime1v", "encoding/binary.LittleEndian"], apart := false, laid := [("given.example/pub-stylewright/pub/esbuild/inner/xxhash.prime1v", laid_given_example_pub_stylewright_pub_esbuild_inner_xxhash_prime1v)] }
def FnHashedBySaid : Prop := fnHashedByRow.holds Tryd.pinned (OpenSpec.ofChange fnHashedBySpec)

/-- ITS FALSE NEIGHBOUR: 'it returns false'. Refute it at one input. -/
def fnHashedByWrong : ChangeSpec := { name := "fnHashedBy", vars := ["given.example/pub-stylewright/pub/esbuild/inner/xxhash.prime1v"], fn := fun _ => fun
  | [d, g1] => { results := [.lit (.bool false)], args := [d], vars := [g1] }
  | _ => none }
def FnHashedByWrongFalsely : Prop := fnHashedByRow.holds Tryd.pinned (OpenSpec.ofChange fnHashedByWrong)

/- THE SECOND FORM. 'bulk': how many values and letters a reading holds, each counted each time it is reached (what is shared counts as often as it is met; a slice's spare places count too). A statement '..UptoSaid' is the law's where the arguments, and the package variables that the reading takes, are together of bulk at most 1048576: NARROWER than '..Said'. Prove '..Said' where nothing that the law and all that it calls make is longer than what came in: it says more and counts as full. Else prove '..UptoSaid'. A law counts once. -/
mutual
def uptoBulk {H : Type} : DataW H → Nat
  | .lit (.string bytes) => bytes.length + 1
  | .lit _ => 1
  | .nil => 1
  | .ptr d => uptoBulk d + 1
  | .slice elems spare => uptoBulkAll elems + uptoBulkAll spare + 1
  | .agg parts => uptoBulkAll parts + 1
  | .iface _ d => uptoBulk d + 1
  | .map entries => uptoBulkEntries entries + 1
  | .held _ => 1
def uptoBulkAll {H : Type} : List (DataW H) → Nat
  | [] => 0
  | d :: r => uptoBulk d + uptoBulkAll r
def uptoBulkEntries {H : Type} : List (Lit × DataW H) → Nat
  | [] => 0
  | x :: r => uptoBulkEntry x + uptoBulkEntries r
def uptoBulkEntry {H : Type} : Lit × DataW H → Nat
  | (.string bytes, d) => bytes.length + uptoBulk d + 1
  | (_, d) => uptoBulk d + 1
 end
def uptoSmall : (H : Type) → List (DataW H) → Bool := fun _ ds => decide (uptoBulkAll ds ≤ 1048576)
def OpenSpec.upto (s : _root_.Go.ChangeSpec) : _root_.Go.OpenSpec := { _root_.Go.OpenSpec.ofChange s with cond := some uptoSmall }

/-- 'laws.FnHashed', WHERE WHAT IT READS IS OF BULK AT MOST 1048576: true; the input reads as it did. -/
def fnHashedUptoRow : OpenClaim := { program := "ytonndmljendcoaadoor", sum := "38c0844e463758d5913d21cedd8394d2754dbc4ee98e952818e0ce187463a8c8", func := "given.example/pub-stylewright/laws.FnHashed", spec := "fnHashed", named := ["given.example/pub-stylewright/pub/esbuild/inner/xxhash.prime1v", "encoding/binary.LittleEndian"], apart := false, laid := [("given.example/pub-stylewright/pub/esbuild/inner/xxhash.prime1v", laid_given_example_pub_stylewright_pub_esbuild_inner_xxhash_prime1v)], narrowed := true }
def FnHashedUptoSaid : Prop := fnHashedUptoRow.holds Tryd.pinned (OpenSpec.upto fnHashedSpec)

/-- 'laws.FnHashedBy', WHERE WHAT IT READS IS OF BULK AT MOST 1048576: true; the input reads as it did. -/
def fnHashedByUptoRow : OpenClaim := { program := "ytonndmljendcoaadoor", sum := "38c0844e463758d5913d21cedd8394d2754dbc4ee98e952818e0ce187463a8c8", func := "given.example/pub-stylewright/laws.FnHashedBy", spec := "fnHashedBy", unfollowed := true, recurses := true, named := ["given.example/pub-stylewright/pub/esbuild/inner/xxhash.prime1v", "encoding/binary.LittleEndian"], apart := false, laid := [("given.example/pub-stylewright/pub/esbuild/inner/xxhash.prime1v", laid_given_example_pub_stylewright_pub_esbuild_inner_xxhash_prime1v)], narrowed := true }
def FnHashedByUptoSaid : Prop := fnHashedByUptoRow.holds Tryd.pinned (OpenSpec.upto fnHashedBySpec)

end Rows
end Go.Proofs.YtonndmljendcoaaDoor
