/-
  NARROWER THAN 'FOR EVERY INPUT', by the rows' own cells (each row's printed sentence says how): FnBools: ifaces, laid · FnOptional: ifaces, laid · FnNames: ifaces, laid.
  DERIVED. THE GIVEN ROWS OF THIS SEAT. 3 by the template 'for every input the law returns true; each argument reads behind the call as it read before'; 0 by the template 'total and deterministic' (their statements: YtfpepghmbeoanaaDoorTotals.lean).
  GIVEN WITH THE SEED: the statements are not yours to turn. If you find one false, say at which input.
  Laid BY PROGRAM, IN A SANDBOX (cutbox-rows.mjs): the forced cells as the released guide's own fill.sh prints them over the translation 735e8fc8455bfacd… (all of the seat's roots in one cut). By AI agents, Wed Nov 11 2026. No macro, syntax, notation, axiom, sorry.
-/
import Derived.Test.YtfpepghmbeoanaaDoorChecked
import GoSem.Claim
import GoSem.ClaimJoined
import GoSem.ClaimMapViews
import Derived.JoinedTies
import Derived.KernelRfl
namespace Go.Proofs.YtfpepghmbeoanaaDoor
/- THE CELL 'sum', in the pinned program and in every row, IS THE sha256 OF THE DUMP (.gsa) THAT YtfpepghmbeoanaaDoorProg.lean LOADS. Nothing in Lean hashes anything: it is a label: what it is worth is what the hold of that sum in a sandbox is worth. -/
noncomputable def Tryd.pinned : Pinned := { name := "ytfpepghmbeoanaadoor", sum := "735e8fc8455bfacd0f93d26af2c3d3475241e0997810d38212eb204ed26c9222", checked := Tryd.checked }
namespace Rows
def none {H : Type} : Left H := { results := [], args := [] }

/- WHAT THE LISTED PACKAGE-LEVEL VARIABLES READ AS WHEN THE CALL BEGINS. Each datum BY PROGRAM (the guide's laid-datum.mjs) off the statement by which the dump's own 'gosem.cut.vars' lays the variable. In a bare row this is a premise. The card (YtfpepghmbeoanaaDoorCards.lean) ties it to the program's text. -/
def laid_loop_example_pub_g03247_pub_sevenzip_errUint64NonZero {H : Type} : DataW H := .iface "*errors.errorString" (.ptr (.agg [.lit (.string [115, 101, 118, 101, 110, 122, 105, 112, 58, 32, 117, 105, 110, 116, 54, 52, 32, 118, 97, 108, 117, 101, 32, 109, 117, 115, 116, 32, 98, 101, 32, 110, 111, 110, 45, 122, 101, 114, 111])]))
def laid_loop_example_pub_g03247_pub_sevenzip_errUint64TooLarge {H : Type} : DataW H := .iface "*errors.errorString" (.ptr (.agg [.lit (.string [115, 101, 118, 101, 110, 122, 105, 112, 58, 32, 117, 105, 110, 116, 54, 52, 32, 118, 97, 108, 117, 101, 32, 116, 111, 111, 32, 108, 97, 114, 103, 101])]))
def laid_io_EOF {H : Type} : DataW H := .iface "*errors.errorString" (.ptr (.agg [.lit (.string [69, 79, 70])]))
def laid_loop_example_pub_g03247_pub_sevenzip_errWrongNumberOfFilenames {H : Type} : DataW H := .iface "*errors.errorString" (.ptr (.agg [.lit (.string [115, 101, 118, 101, 110, 122, 105, 112, 58, 32, 119, 114, 111, 110, 103, 32, 110, 117, 109, 98, 101, 114, 32, 111, 102, 32, 102, 105, 108, 101, 110, 97, 109, 101, 115])]))
def laid_loop_example_pub_g03247_pub_sevenzip_errTokenTooLong {H : Type} : DataW H := .iface "*errors.errorString" (.ptr (.agg [.lit (.string [98, 117, 102, 105, 111, 46, 83, 99, 97, 110, 110, 101, 114, 58, 32, 116, 111, 107, 101, 110, 32, 116, 111, 111, 32, 108, 111, 110, 103])]))

/-- 'laws.FnBools': WHATEVER THE INPUT: true; the input reads as it did. -/
def fnBoolsSpec : ChangeSpec := { name := "fnBools", vars := ["loop.example/pub-g03247/pub/sevenzip.errUint64NonZero", "loop.example/pub-g03247/pub/sevenzip.errUint64TooLarge"], fn := fun _ => fun
  | [d1, d2, g1, g2] => { results := [.lit (.bool true)], args := [d1, d2], vars := [g1, g2] }
  | _ => none }
def fnBoolsRow : OpenClaim := { program := "ytfpepghmbeoanaadoor", sum := "735e8fc8455bfacd0f93d26af2c3d3475241e0997810d38212eb204ed26c9222", func := "loop.example/pub-g03247/laws.FnBools", spec := "fnBools", unfollowed := true, recurses := true, named := ["loop.example/pub-g03247/pub/sevenzip.errUint64NonZero", "loop.example/pub-g03247/pub/sevenzip.errUint64TooLarge"], ifaces := true, apart := false, laid := [("loop.example/pub-g03247/pub/sevenzip.errUint64NonZero", laid_loop_example_pub_g03247_pub_sevenzip_errUint64NonZero), ("loop.example/pub-g03247/pub/sevenzip.errUint64TooLarge", laid_loop_example_pub_g03247_pub_sevenzip_errUint64TooLarge)] }
def FnBoolsSaid : Prop := fnBoolsRow.holds Tryd.pinned (OpenSpec.ofChange fnBoolsSpec)

/-- ITS FALSE NEIGHBOUR: 'it returns false'. Refute it at one input. -/
def fnBoolsWrong : ChangeSpec := { name := "fnBools", vars := ["loop.example/pub-g03247/pub/sevenzip.errUint64NonZero", "loop.example/pub-g03247/pub/sevenzip.errUint64TooLarge"], fn := fun _ => fun
  | [d1, d2, g1, g2] => { results := [.lit (.bool false)], args := [d1, d2], vars := [g1, g2] }
  | _ => none }
def FnBoolsWrongFalsely : Prop := fnBoolsRow.holds Tryd.pinned (OpenSpec.ofChange fnBoolsWrong)

/-- 'laws.FnOptional': WHATEVER THE INPUT: true; the input reads as it did. -/
def fnOptionalSpec : ChangeSpec := { name := "fnOptional", vars := ["loop.example/pub-g03247/pub/sevenzip.errUint64NonZero", "loop.example/pub-g03247/pub/sevenzip.errUint64TooLarge"], fn := fun _ => fun
  | [d1, d2, g1, g2] => { results := [.lit (.bool true)], args := [d1, d2], vars := [g1, g2] }
  | _ => none }
def fnOptionalRow : OpenClaim := { program := "ytfpepghmbeoanaadoor", sum := "735e8fc8455bfacd0f93d26af2c3d3475241e0997810d38212eb204ed26c9222", func := "loop.example/pub-g03247/laws.FnOptional", spec := "fnOptional", unfollowed := true, recurses := true, named := ["loop.example/pub-g03247/pub/sevenzip.errUint64NonZero", "loop.example/pub-g03247/pub/sevenzip.errUint64TooLarge"], ifaces := true, apart := false, laid := [("loop.example/pub-g03247/pub/sevenzip.errUint64NonZero", laid_loop_example_pub_g03247_pub_sevenzip_errUint64NonZero), ("loop.example/pub-g03247/pub/sevenzip.errUint64TooLarge", laid_loop_example_pub_g03247_pub_sevenzip_errUint64TooLarge)] }
def FnOptionalSaid : Prop := fnOptionalRow.holds Tryd.pinned (OpenSpec.ofChange fnOptionalSpec)

/-- ITS FALSE NEIGHBOUR: 'it returns false'. Refute it at one input. -/
def fnOptionalWrong : ChangeSpec := { name := "fnOptional", vars := ["loop.example/pub-g03247/pub/sevenzip.errUint64NonZero", "loop.example/pub-g03247/pub/sevenzip.errUint64TooLarge"], fn := fun _ => fun
  | [d1, d2, g1, g2] => { results := [.lit (.bool false)], args := [d1, d2], vars := [g1, g2] }
  | _ => none }
def FnOptionalWrongFalsely : Prop := fnOptionalRow.holds Tryd.pinned (OpenSpec.ofChange fnOptionalWrong)

/-- 'laws.FnNames': WHATEVER THE INPUT: true; the input reads as it did. -/
def fnNamesSpec : ChangeSpec := { name := "fnNames", vars := ["loop.example/pub-g03247/pub/sevenzip.errWrongNumberOfFilenames", "loop.example/pub-g03247/pub/sevenzip.errUint64NonZero", "loop.example/pub-g03247/pub/sevenzip.errUint64TooLarge", "loop.example/pub-g03247/pub/sevenzip.errTokenTooLong"], fn := fun _ => fun
  | [d, g1, g2, g3, g4] => { results := [.lit (.bool true)], args := [d], vars := [g1, g2, g3, g4] }
  | _ => none }
def fnNamesRow : OpenClaim := { program := "ytfpepghmbeoanaadoor", sum := "735e8fc8455bfacd0f93d26af2c3d3475241e0997810d38212eb204ed26c9222", func := "loop.example/pub-g03247/laws.FnNames", spec := "fnNames", unfollowed := true, recurses := true, named := ["loop.example/pub-g03247/pub/sevenzip.errWrongNumberOfFilenames", "loop.example/pub-g03247/pub/sevenzip.errUint64NonZero", "loop.example/pub-g03247/pub/sevenzip.errUint64TooLarge", "io.EOF", "loop.example/pub-g03247/pub/sevenzip.errTokenTooLong"], ifaces := true, apart := false, laid := [("io.EOF", laid_io_EOF), ("loop.example/pub-g03247/pub/sevenzip.errWrongNumberOfFilenames", laid_loop_example_pub_g03247_pub_sevenzip_errWrongNumberOfFilenames), ("loop.example/pub-g03247/pub/sevenzip.errUint64NonZero", laid_loop_example_pub_g03247_pub_sevenzip_errUint64NonZero), ("loop.example/pub-g03247/pub/sevenzip.errUint64TooLarge", laid_loop_example_pub_g03247_pub_sevenzip_errUint64TooLarge), ("loop.example/pub-g03247/pub/sevenzip.errTokenTooLong", laid_loop_example_pub_g03247_pub_sevenzip_errTokenTooLong)] }
def FnNamesSaid : Prop := fnNamesRow.holds Tryd.pinned (OpenSpec.ofChange fnNamesSpec)

/-- ITS FALSE NEIGHBOUR: 'it returns false'. Refute it at one input. -/
def fnNamesWrong : ChangeSpec := { name := "fnNames", vars := ["loop.example/pub-g03247/pub/sevenzip.errWrongNumberOfFilenames", "loop.example/pub-g03247/pub/sevenzip.errUint64NonZero", "loop.example/pub-g03247/pub/sevenzip.errUint64TooLarge", "loop.example/pub-g03247/pub/sevenzip.errTokenTooLong"], fn := fun _ => fun
  | [d, g1, g2, g3, g4] => { results := [.lit (.bool false)], args := [d], vars := [g1, g2, g3, g4] }
  | _ => none }
def FnNamesWrongFalsely : Prop := fnNamesRow.holds Tryd.pinned (OpenSpec.ofChange fnNamesWrong)

/- THE SECOND FORM. 'bulk': how many values and letters a reading holds, each counted each time it is reached (what is shared counts as often as it is met; a slice's spare places count too). A statement '..UptoSaid' is the law's where the arguments, and the package variables that the reading takes, are together of bulk at most 1048576: NARROWER than '..Said'. Prove '..Said' where nothing that the law and all that it calls make is longer than what came in: it says more and counts as full. Else prove '..UptoSaid'. A law counts once. -/
mutual
def uptoBulk {H : Type} : DataW H → Nat
  | .lit (.string bytes) => bytes.length + 1
  | .lit _ => 1
  | .nil => 1
  | .ptr d => uptoBulk d + 1
  | .slice elems spare => uptoBulkAll elems + uptoBulkAll spare + 1
  | .agg parts => uptoBulkAll parts + 1
  | .iface _ d => uptoBulk d + 1
  | .map entries => uptoBulkEntries entries + 1
  | .held _ => 1
def uptoBulkAll {H : Type} : List (DataW H) → Nat
  | [] => 0
  | d :: r => uptoBulk d + uptoBulkAll r
def uptoBulkEntries {H : Type} : List (Lit × DataW H) → Nat
  | [] => 0
  | x :: r => uptoBulkEntry x + uptoBulkEntries r
def uptoBulkEntry {H : Type} : Lit × DataW H → Nat
  | (.string bytes, d) => bytes.length + uptoBulk d + 1
  | (_, d) => uptoBulk d + 1
 end
def uptoSmall : (H : Type) → List (DataW H) → Bool := fun _ ds => decide (uptoBulkAll ds ≤ 1048576)
def OpenSpec.upto (s : _root_.Go.ChangeSpec) : _root_.Go.OpenSpec := { _root_.Go.OpenSpec.ofChange s with cond := some uptoSmall }

/-- 'laws.FnBools', WHERE WHAT IT READS IS OF BULK AT MOST 1048576: true; the input reads as it did. -/
def fnBoolsUptoRow : OpenClaim := { program := "ytfpepghmbeoanaadoor", sum := "735e8fc8455bfacd0f93d26af2c3d3475241e0997810d38212eb204ed26c9222", func := "loop.example/pub-g03247/laws.FnBools", spec := "fnBools", unfollowed := true, recurses := true, named := ["loop.example/pub-g03247/pub/sevenzip.errUint64NonZero", "loop.example/pub-g03247/pub/sevenzip.errUint64TooLarge"], ifaces := true, apart := false, laid := [("loop.example/pub-g03247/pub/sevenzip.errUint64NonZero", laid_loop_example_pub_g03247_pub_sevenzip_errUint64NonZero), ("loop.example/pub-g03247/pub/sevenzip.errUint64TooLarge", laid_loop_example_pub_g03247_pub_sevenzip_errUint64TooLarge)], narrowed := true }
def FnBoolsUptoSaid : Prop := fnBoolsUptoRow.holds Tryd.pinned (OpenSpec.upto fnBoolsSpec)

/-- 'laws.FnOptional', WHERE WHAT IT READS IS OF BULK AT MOST 1048576: true; the input reads as it did. -/
def fnOptionalUptoRow : OpenClaim := { program := "ytfpepghmbeoanaadoor", sum := "735e8fc8455bfacd0f93d26af2c3d3475241e0997810d38212eb204ed26c9222", func := "loop.example/pub-g03247/laws.FnOptional", spec := "fnOptional", unfollowed := true, recurses := true, named := ["loop.example/pub-g03247/pub/sevenzip.errUint64NonZero", "loop.example/pub-g03247/pub/sevenzip.errUint64TooLarge"], ifaces := true, apart := false, laid := [("loop.example/pub-g03247/pub/sevenzip.errUint64NonZero", laid_loop_example_pub_g03247_pub_sevenzip_errUint64NonZero), ("loop.example/pub-g03247/pub/sevenzip.errUint64TooLarge", laid_loop_example_pub_g03247_pub_sevenzip_errUint64TooLarge)], narrowed := true }
def FnOptionalUptoSaid : Prop := fnOptionalUptoRow.holds Tryd.pinned (OpenSpec.upto fnOptionalSpec)

/-- 'laws.FnNames', WHERE WHAT IT READS IS OF BULK AT MOST 1048576: true; the input reads as it did. -/
def fnNamesUptoRow : OpenClaim := { program := "ytfpepghmbeoanaadoor", sum := "735e8fc8455bfacd0f93d26af2c3d3475241e0997810d38212eb204ed26c9222", func := "loop.example/pub-g03247/laws.FnNames", spec := "fnNames", unfollowed := true, recurses := true, named := ["loop.example/pub-g03247/pub/sevenzip.errWrongNumberOfFilenames", "loop.example/pub-g03247/pub/sevenzip.errUint64NonZero", "loop.example/pub-g03247/pub/sevenzip.errUint64TooLarge", "io.EOF", "loop.example/pub-g03247/pub/sevenzip.errTokenTooLong"], ifaces := true, apart := false, laid := [("io.EOF", laid_io_EOF), ("loop.example/pub-g03247/pub/sevenzip.errWrongNumberOfFilenames", laid_loop_example_pub_g03247_pub_sevenzip_errWrongNumberOfFilenames), ("loop.example/pub-g03247/pub/sevenzip.errUint64NonZero", laid_loop_example_pub_g03247_pub_sevenzip_errUint64NonZero), ("loop.example/pub-g03247/pub/sevenzip.errUint64TooLarge", laid_loop_example_pub_g03247_pub_sevenzip_errUint64TooLarge), ("loop.example/pub-g03247/pub/sevenzip.errTokenTooLong", laid_loop_example_pub_g03247_pub_sevenzip_errTokenTooLong)], narrowed := true }
def FnNamesUptoSaid : Prop := fnNamesUptoRow.holds Tryd.pinned (OpenSpec.upto fnNamesSpec)

end Rows
end Go.Proofs.YtfpepghmbeoanaaDoor
