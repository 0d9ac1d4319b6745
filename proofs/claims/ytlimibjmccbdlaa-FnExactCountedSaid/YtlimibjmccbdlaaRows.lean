/-
  No cell of these rows narrows 'for every input' (looked for: loops, veiled, ifaces, maps, wideKeys, modest, calm, conditions, laid).
  DERIVED. THE GIVEN ROWS OF THIS SEAT. 3 by the template 'for every input the law returns true; each argument reads behind the call as it read before'; 0 by the template 'total and deterministic' (their statements: YtlimibjmccbdlaaTotals.lean).
  GIVEN WITH THE SEED: the statements are not yours to turn. If you find one false, say at which input.
  Laid BY PROGRAM, IN A SANDBOX (cutbox-rows.mjs): the forced cells as the released guide's own fill.sh prints them over the translation 46c542b511a014b6… (all of the seat's roots in one cut). By AI agents, Wed Nov 11 2026. No macro, syntax, notation, axiom, sorry.
-/
import Derived.Test.YtlimibjmccbdlaaChecked
import GoSem.Claim
import GoSem.ClaimJoined
import GoSem.ClaimMapViews
import Derived.JoinedTies
import Derived.KernelRfl
namespace Go.Proofs.Ytlimibjmccbdlaa
/- THE CELL 'sum', in the pinned program and in every row, IS THE sha256 OF THE DUMP (.gsa) THAT YtlimibjmccbdlaaProg.lean LOADS. Nothing in Lean hashes anything: it is a label: what it is worth is what the hold of that sum in a sandbox is worth. -/
noncomputable def Try.pinned : Pinned := { name := "ytlimibjmccbdlaa", sum := "46c542b511a014b65e8150928b318cdc27134f2f641c49207c20aabc16296ded", checked := Try.checked }
namespace Rows
def none {H : Type} : Left H := { results := [], args := [] }

/-- 'laws.FnExactTagged': WHATEVER THE INPUT: true; the input reads as it did. -/
def fnExactTaggedSpec : ChangeSpec := { name := "fnExactTagged", fn := fun _ => fun
  | [d1, d2] => { results := [.lit (.bool true)], args := [d1, d2] }
  | _ => none }
def fnExactTaggedRow : OpenClaim := { program := "ytlimibjmccbdlaa", sum := "46c542b511a014b65e8150928b318cdc27134f2f641c49207c20aabc16296ded", func := "loop.example/pub-metricpages/laws.FnExactTagged", spec := "fnExactTagged", inPlace := ["internal/bytealg.IndexByteString", "internal/bytealg.abigen_runtime_cmpstring"], unfollowed := true, recurses := true, apart := false }
def FnExactTaggedSaid : Prop := fnExactTaggedRow.holds Try.pinned (OpenSpec.ofChange fnExactTaggedSpec)

/-- ITS FALSE NEIGHBOUR: 'it returns false'. Refute it at one input. -/
def fnExactTaggedWrong : ChangeSpec := { name := "fnExactTagged", fn := fun _ => fun
  | [d1, d2] => { results := [.lit (.bool false)], args := [d1, d2] }
  | _ => none }
def FnExactTaggedWrongFalsely : Prop := fnExactTaggedRow.holds Try.pinned (OpenSpec.ofChange fnExactTaggedWrong)

/-- 'laws.FnExactValid': WHATEVER THE INPUT: true; the input reads as it did. -/
def fnExactValidSpec : ChangeSpec := { name := "fnExactValid", fn := fun _ => fun
  | [d] => { results := [.lit (.bool true)], args := [d] }
  | _ => none }
def fnExactValidRow : OpenClaim := { program := "ytlimibjmccbdlaa", sum := "46c542b511a014b65e8150928b318cdc27134f2f641c49207c20aabc16296ded", func := "loop.example/pub-metricpages/laws.FnExactValid", spec := "fnExactValid", inPlace := ["internal/bytealg.IndexByteString", "internal/bytealg.abigen_runtime_cmpstring"], unfollowed := true, recurses := true, apart := false }
def FnExactValidSaid : Prop := fnExactValidRow.holds Try.pinned (OpenSpec.ofChange fnExactValidSpec)

/-- ITS FALSE NEIGHBOUR: 'it returns false'. Refute it at one input. -/
def fnExactValidWrong : ChangeSpec := { name := "fnExactValid", fn := fun _ => fun
  | [d] => { results := [.lit (.bool false)], args := [d] }
  | _ => none }
def FnExactValidWrongFalsely : Prop := fnExactValidRow.holds Try.pinned (OpenSpec.ofChange fnExactValidWrong)

/-- 'laws.FnExactCounted': WHATEVER THE INPUT: true; the input reads as it did. -/
def fnExactCountedSpec : ChangeSpec := { name := "fnExactCounted", fn := fun _ => fun
  | [d] => { results := [.lit (.bool true)], args := [d] }
  | _ => none }
def fnExactCountedRow : OpenClaim := { program := "ytlimibjmccbdlaa", sum := "46c542b511a014b65e8150928b318cdc27134f2f641c49207c20aabc16296ded", func := "loop.example/pub-metricpages/laws.FnExactCounted", spec := "fnExactCounted", inPlace := ["internal/bytealg.IndexByteString", "internal/bytealg.abigen_runtime_cmpstring"], unfollowed := true, recurses := true, apart := false }
def FnExactCountedSaid : Prop := fnExactCountedRow.holds Try.pinned (OpenSpec.ofChange fnExactCountedSpec)

/-- ITS FALSE NEIGHBOUR: 'it returns false'. Refute it at one input. -/
def fnExactCountedWrong : ChangeSpec := { name := "fnExactCounted", fn := fun _ => fun
  | [d] => { results := [.lit (.bool false)], args := [d] }
  | _ => none }
def FnExactCountedWrongFalsely : Prop := fnExactCountedRow.holds Try.pinned (OpenSpec.ofChange fnExactCountedWrong)

/- THE SECOND FORM. 'bulk': how many values and letters a reading holds, each counted each time it is reached (what is shared counts as often as it is met; a slice's spare places count too). A statement '..UptoSaid' is the law's where the arguments, and the package variables that the reading takes, are together of bulk at most 1048576: NARROWER than '..Said'. Prove '..Said' where nothing that the law and all that it calls make is longer than what came in: it says more and counts as full. Else prove '..UptoSaid'. A law counts once. -/
mutual
def uptoBulk {H : Type} : DataW H → Nat
  | .lit (.string bytes) => bytes.length + 1
  | .lit _ => 1
  | .nil => 1
  | .ptr d => uptoBulk d + 1
  | .slice elems spare => uptoBulkAll elems + uptoBulkAll spare + 1
  | .agg parts => uptoBulkAll parts + 1
  | .iface _ d => uptoBulk d + 1
  | .map entries => uptoBulkEntries entries + 1
  | .held _ => 1
def uptoBulkAll {H : Type} : List (DataW H) → Nat
  | [] => 0
  | d :: r => uptoBulk d + uptoBulkAll r
def uptoBulkEntries {H : Type} : List (Lit × DataW H) → Nat
  | [] => 0
  | x :: r => uptoBulkEntry x + uptoBulkEntries r
def uptoBulkEntry {H : Type} : Lit × DataW H → Nat
  | (.string bytes, d) => bytes.length + uptoBulk d + 1
  | (_, d) => uptoBulk d + 1
 end
def uptoSmall : (H : Type) → List (DataW H) → Bool := fun _ ds => decide (uptoBulkAll ds ≤ 1048576)
def OpenSpec.upto (s : _root_.Go.ChangeSpec) : _root_.Go.OpenSpec := { _root_.Go.OpenSpec.ofChange s with cond := some uptoSmall }

/-- 'laws.FnExactTagged', WHERE WHAT IT READS IS OF BULK AT MOST 1048576: true; the input reads as it did. -/
def fnExactTaggedUptoRow : OpenClaim := { program := "ytlimibjmccbdlaa", sum := "46c542b511a014b65e8150928b318cdc27134f2f641c49207c20aabc16296ded", func := "loop.example/pub-metricpages/laws.FnExactTagged", spec := "fnExactTagged", inPlace := ["internal/bytealg.IndexByteString", "internal/bytealg.abigen_runtime_cmpstring"], unfollowed := true, recurses := true, apart := false, narrowed := true }
def FnExactTaggedUptoSaid : Prop := fnExactTaggedUptoRow.holds Try.pinned (OpenSpec.upto fnExactTaggedSpec)

/-- 'laws.FnExactValid', WHERE WHAT IT READS IS OF BULK AT MOST 1048576: true; the input reads as it did. -/
def fnExactValidUptoRow : OpenClaim := { program := "ytlimibjmccbdlaa", sum := "46c542b511a014b65e8150928b318cdc27134f2f641c49207c20aabc16296ded", func := "loop.example/pub-metricpages/laws.FnExactValid", spec := "fnExactValid", inPlace := ["internal/bytealg.IndexByteString", "internal/bytealg.abigen_runtime_cmpstring"], unfollowed := true, recurses := true, apart := false, narrowed := true }
def FnExactValidUptoSaid : Prop := fnExactValidUptoRow.holds Try.pinned (OpenSpec.upto fnExactValidSpec)

/-- 'laws.FnExactCounted', WHERE WHAT IT READS IS OF BULK AT MOST 1048576: true; the input reads as it did. -/
def fnExactCountedUptoRow : OpenClaim := { program := "ytlimibjmccbdlaa", sum := "46c542b511a014b65e8150928b318cdc27134f2f641c49207c20aabc16296ded", func := "loop.example/pub-metricpages/laws.FnExactCounted", spec := "fnExactCounted", inPlace := ["internal/bytealg.IndexByteString", "internal/bytealg.abigen_runtime_cmpstring"], unfollowed := true, recurses := true, apart := false, narrowed := true }
def FnExactCountedUptoSaid : Prop := fnExactCountedUptoRow.holds Try.pinned (OpenSpec.upto fnExactCountedSpec)

end Rows
end Go.Proofs.Ytlimibjmccbdlaa
