/-
  No cell of these rows narrows 'for every input' (looked for: loops, veiled, ifaces, maps, wideKeys, modest, calm, conditions, laid).
  DERIVED. THE GIVEN ROWS OF THIS SEAT. 3 by the template 'for every input the law returns true; each argument reads behind the call as it read before'; 0 by the template 'total and deterministic' (their statements: Qxb6604186aTotals.lean).
  GIVEN WITH THE SEED: the statements are not yours to turn. If you find one false, say at which input.
  Laid BY PROGRAM, IN A SANDBOX (cutbox-rows.mjs): the forced cells as the released guide's own fill.sh prints them over the translation 95c8d873df450c24… (all of the seat's roots in one cut). By AI agents, Wed Nov 11 2026. No macro, syntax, notation, axiom, sorry.
-/
import Derived.Test.Qxb6604186aChecked
import GoSem.Claim
import GoSem.ClaimJoined
import GoSem.ClaimMapViews
import Derived.JoinedTies
import Derived.KernelRfl
namespace Go.Proofs.Qxb6604186a
/- THE CELL 'sum', in the pinned program and in every row, IS THE sha256 OF THE DUMP (.gsa) THAT Qxb6604186aProg.lean LOADS. Nothing in Lean hashes anything: it is a label: what it is worth is what the hold of that sum in a sandbox is worth. -/
noncomputable def Try.pinned : Pinned := { name := "qxb6604186a", sum := "95c8d873df450c24308427b416295208c24a8816ce2dfa74adb8f3493025b0e9", checked := Try.checked }
namespace Rows
def none {H : Type} : Left H := { results := [], args := [] }

/-- 'zzlaws_root_b1.FnCutListMemberMatchesTokenizer': WHATEVER THE INPUT: true; the input reads as it did. -/
def fnCutListMemberMatchesTokenizerSpec : ChangeSpec := { name := "fnCutListMemberMatchesTokenizer", fn := fun _ => fun
  | [d] => { results := [.lit (.bool true)], args := [d] }
  | _ => none }
def fnCutListMemberMatchesTokenizerRow : OpenClaim := { program := "qxb6604186a", sum := "95c8d873df450c24308427b416295208c24a8816ce2dfa74adb8f3493025b0e9", func := "example.com/orb-weaver/orb-weaver/zzlaws_root_b1.FnCutListMemberMatchesTokenizer", spec := "fnCutListMemberMatchesTokenizer", apart := false }
def FnCutListMemberMatchesTokenizerSaid : Prop := fnCutListMemberMatchesTokenizerRow.holds Try.pinned (OpenSpec.ofChange fnCutListMemberMatchesTokenizerSpec)

/-- ITS FALSE NEIGHBOUR: 'it returns false'. Refute it at one input. -/
def fnCutListMemberMatchesTokenizerWrong : ChangeSpec := { name := "fnCutListMemberMatchesTokenizer", fn := fun _ => fun
  | [d] => { results := [.lit (.bool false)], args := [d] }
  | _ => none }
def FnCutListMemberMatchesTokenizerWrongFalsely : Prop := fnCutListMemberMatchesTokenizerRow.holds Try.pinned (OpenSpec.ofChange fnCutListMemberMatchesTokenizerWrong)

/-- 'zzlaws_root_b1.FnEmptyWildcardMatchesSegmentModel': WHATEVER THE INPUT: true; the input reads as it did. -/
def fnEmptyWildcardMatchesSegmentModelSpec : ChangeSpec := { name := "fnEmptyWildcardMatchesSegmentModel", fn := fun _ => fun
  | [d1, d2, d3, d4, d5, d6, d7] => { results := [.lit (.bool true)], args := [d1, d2, d3, d4, d5, d6, d7] }
  | _ => none }
def fnEmptyWildcardMatchesSegmentModelRow : OpenClaim := { program := "qxb6604186a", sum := "95c8d873df450c24308427b416295208c24a8816ce2dfa74adb8f3493025b0e9", func := "example.com/orb-weaver/orb-weaver/zzlaws_root_b1.FnEmptyWildcardMatchesSegmentModel", spec := "fnEmptyWildcardMatchesSegmentModel", inPlace := ["internal/bytealg.IndexByteString", "internal/bytealg.IndexString"], named := ["internal/bytealg.MaxLen"], apart := false }
def FnEmptyWildcardMatchesSegmentModelSaid : Prop := fnEmptyWildcardMatchesSegmentModelRow.holds Try.pinned (OpenSpec.ofChange fnEmptyWildcardMatchesSegmentModelSpec)

/-- ITS FALSE NEIGHBOUR: 'it returns false'. Refute it at one input. -/
def fnEmptyWildcardMatchesSegmentModelWrong : ChangeSpec := { name := "fnEmptyWildcardMatchesSegmentModel", fn := fun _ => fun
  | [d1, d2, d3, d4, d5, d6, d7] => { results := [.lit (.bool false)], args := [d1, d2, d3, d4, d5, d6, d7] }
  | _ => none }
def FnEmptyWildcardMatchesSegmentModelWrongFalsely : Prop := fnEmptyWildcardMatchesSegmentModelRow.holds Try.pinned (OpenSpec.ofChange fnEmptyWildcardMatchesSegmentModelWrong)

/-- 'zzlaws_root_b1.FnCutListMemberSplitsAtFirstUnquotedComma': WHATEVER THE INPUT: true; the input reads as it did. -/
def fnCutListMemberSplitsAtFirstUnquotedCommaSpec : ChangeSpec := { name := "fnCutListMemberSplitsAtFirstUnquotedComma", fn := fun _ => fun
  | [d] => { results := [.lit (.bool true)], args := [d] }
  | _ => none }
def fnCutListMemberSplitsAtFirstUnquotedCommaRow : OpenClaim := { program := "qxb6604186a", sum := "95c8d873df450c24308427b416295208c24a8816ce2dfa74adb8f3493025b0e9", func := "example.com/orb-weaver/orb-weaver/zzlaws_root_b1.FnCutListMemberSplitsAtFirstUnquotedComma", spec := "fnCutListMemberSplitsAtFirstUnquotedComma", apart := false }
def FnCutListMemberSplitsAtFirstUnquotedCommaSaid : Prop := fnCutListMemberSplitsAtFirstUnquotedCommaRow.holds Try.pinned (OpenSpec.ofChange fnCutListMemberSplitsAtFirstUnquotedCommaSpec)

/-- ITS FALSE NEIGHBOUR: 'it returns false'. Refute it at one input. -/
def fnCutListMemberSplitsAtFirstUnquotedCommaWrong : ChangeSpec := { name := "fnCutListMemberSplitsAtFirstUnquotedComma", fn := fun _ => fun
  | [d] => { results := [.lit (.bool false)], args := [d] }
  | _ => none }
def FnCutListMemberSplitsAtFirstUnquotedCommaWrongFalsely : Prop := fnCutListMemberSplitsAtFirstUnquotedCommaRow.holds Try.pinned (OpenSpec.ofChange fnCutListMemberSplitsAtFirstUnquotedCommaWrong)

end Rows
end Go.Proofs.Qxb6604186a
