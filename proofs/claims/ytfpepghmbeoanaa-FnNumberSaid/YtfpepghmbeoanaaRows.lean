/-
  No cell of these rows narrows 'for every input' (looked for: loops, veiled, ifaces, maps, wideKeys, modest, calm, conditions, laid).
  DERIVED. THE GIVEN ROWS OF THIS SEAT. 2 by the template 'for every input the law returns true; each argument reads behind the call as it read before'; 0 by the template 'total and deterministic' (their statements: YtfpepghmbeoanaaTotals.lean).
  GIVEN WITH THE SEED: the statements are not yours to turn. If you find one false, say at which input.
  Laid BY PROGRAM, IN A SANDBOX (cutbox-rows.mjs): the forced cells as the released guide's own fill.sh prints them over the translation 10ccf1a08397d7ed… (all of the seat's roots in one cut). By AI agents, Wed Nov 11 2026. No macro, syntax, notation, axiom, sorry.
-/
import Derived.Test.YtfpepghmbeoanaaChecked
import GoSem.Claim
import GoSem.ClaimJoined
import GoSem.ClaimMapViews
import Derived.JoinedTies
import Derived.KernelRfl
namespace Go.Proofs.Ytfpepghmbeoanaa
/- THE CELL 'sum', in the pinned program and in every row, IS THE sha256 OF THE DUMP (.gsa) THAT YtfpepghmbeoanaaProg.lean LOADS. Nothing in Lean hashes anything: it is a label: what it is worth is what the hold of that sum in a sandbox is worth. -/
noncomputable def Try.pinned : Pinned := { name := "ytfpepghmbeoanaa", sum := "10ccf1a08397d7ed4e3c51f03d5fc4161a330455ac041a596dab96fb1d1bd9f7", checked := Try.checked }
namespace Rows
def none {H : Type} : Left H := { results := [], args := [] }

/-- 'laws.FnNumber': WHATEVER THE INPUT: true; the input reads as it did. -/
def fnNumberSpec : ChangeSpec := { name := "fnNumber", fn := fun _ => fun
  | [d1, d2] => { results := [.lit (.bool true)], args := [d1, d2] }
  | _ => none }
def fnNumberRow : OpenClaim := { program := "ytfpepghmbeoanaa", sum := "10ccf1a08397d7ed4e3c51f03d5fc4161a330455ac041a596dab96fb1d1bd9f7", func := "loop.example/pub-g03247/laws.FnNumber", spec := "fnNumber", unfollowed := true, recurses := true, apart := false }
def FnNumberSaid : Prop := fnNumberRow.holds Try.pinned (OpenSpec.ofChange fnNumberSpec)

/-- ITS FALSE NEIGHBOUR: 'it returns false'. Refute it at one input. -/
def fnNumberWrong : ChangeSpec := { name := "fnNumber", fn := fun _ => fun
  | [d1, d2] => { results := [.lit (.bool false)], args := [d1, d2] }
  | _ => none }
def FnNumberWrongFalsely : Prop := fnNumberRow.holds Try.pinned (OpenSpec.ofChange fnNumberWrong)

/-- 'laws.FnNumberCut': WHATEVER THE INPUT: true; the input reads as it did. -/
def fnNumberCutSpec : ChangeSpec := { name := "fnNumberCut", fn := fun _ => fun
  | [d1, d2] => { results := [.lit (.bool true)], args := [d1, d2] }
  | _ => none }
def fnNumberCutRow : OpenClaim := { program := "ytfpepghmbeoanaa", sum := "10ccf1a08397d7ed4e3c51f03d5fc4161a330455ac041a596dab96fb1d1bd9f7", func := "loop.example/pub-g03247/laws.FnNumberCut", spec := "fnNumberCut", unfollowed := true, recurses := true, apart := false }
def FnNumberCutSaid : Prop := fnNumberCutRow.holds Try.pinned (OpenSpec.ofChange fnNumberCutSpec)

/-- ITS FALSE NEIGHBOUR: 'it returns false'. Refute it at one input. -/
def fnNumberCutWrong : ChangeSpec := { name := "fnNumberCut", fn := fun _ => fun
  | [d1, d2] => { results := [.lit (.bool false)], args := [d1, d2] }
  | _ => none }
def FnNumberCutWrongFalsely : Prop := fnNumberCutRow.holds Try.pinned (OpenSpec.ofChange fnNumberCutWrong)

/- THE SECOND FORM. 'bulk': how many values and letters a reading holds, each counted each time it is reached (what is shared counts as often as it is met; a slice's spare places count too). A statement '..UptoSaid' is the law's where the arguments, and the package variables that the reading takes, are together of bulk at most 1048576: NARROWER than '..Said'. Prove '..Said' where nothing that the law and all that it calls make is longer than what came in: it says more and counts as full. Else prove '..UptoSaid'. A law counts once. -/
mutual
def uptoBulk {H : Type} : DataW H → Nat
  | .lit (.string bytes) => bytes.length + 1
  | .lit _ => 1
  | .nil => 1
  | .ptr d => uptoBulk d + 1
  | .slice elems spare => uptoBulkAll elems + uptoBulkAll spare + 1
  | .agg parts => uptoBulkAll parts + 1
  | .iface _ d => uptoBulk d + 1
  | .map entries => uptoBulkEntries entries + 1
  | .held _ => 1
def uptoBulkAll {H : Type} : List (DataW H) → Nat
  | [] => 0
  | d :: r => uptoBulk d + uptoBulkAll r
def uptoBulkEntries {H : Type} : List (Lit × DataW H) → Nat
  | [] => 0
  | x :: r => uptoBulkEntry x + uptoBulkEntries r
def uptoBulkEntry {H : Type} : Lit × DataW H → Nat
  | (.string bytes, d) => bytes.length + uptoBulk d + 1
  | (_, d) => uptoBulk d + 1
 end
def uptoSmall : (H : Type) → List (DataW H) → Bool := fun _ ds => decide (uptoBulkAll ds ≤ 1048576)
def OpenSpec.upto (s : _root_.Go.ChangeSpec) : _root_.Go.OpenSpec := { _root_.Go.OpenSpec.ofChange s with cond := some uptoSmall }

/-- 'laws.FnNumber', WHERE WHAT IT READS IS OF BULK AT MOST 1048576: true; the input reads as it did. -/
def fnNumberUptoRow : OpenClaim := { program := "ytfpepghmbeoanaa", sum := "10ccf1a08397d7ed4e3c51f03d5fc4161a330455ac041a596dab96fb1d1bd9f7", func := "loop.example/pub-g03247/laws.FnNumber", spec := "fnNumber", unfollowed := true, recurses := true, apart := false, narrowed := true }
def FnNumberUptoSaid : Prop := fnNumberUptoRow.holds Try.pinned (OpenSpec.upto fnNumberSpec)

/-- 'laws.FnNumberCut', WHERE WHAT IT READS IS OF BULK AT MOST 1048576: true; the input reads as it did. -/
def fnNumberCutUptoRow : OpenClaim := { program := "ytfpepghmbeoanaa", sum := "10ccf1a08397d7ed4e3c51f03d5fc4161a330455ac041a596dab96fb1d1bd9f7", func := "loop.example/pub-g03247/laws.FnNumberCut", spec := "fnNumberCut", unfollowed := true, recurses := true, apart := false, narrowed := true }
def FnNumberCutUptoSaid : Prop := fnNumberCutUptoRow.holds Try.pinned (OpenSpec.upto fnNumberCutSpec)

end Rows
end Go.Proofs.Ytfpepghmbeoanaa
