/-
  No cell of these rows narrows 'for every input' (looked for: loops, veiled, ifaces, maps, wideKeys, modest, calm, conditions, laid).
  DERIVED. THE GIVEN ROWS OF THIS SEAT. 2 by the template 'for every input the law returns true; each argument reads behind the call as it read before'; 0 by the template 'total and deterministic' (their statements: Qxb6613975aTotals.lean).
  GIVEN WITH THE SEED: the statements are not yours to turn. If you find one false, say at which input.
  Laid BY PROGRAM, IN A SANDBOX (cutbox-rows.mjs): the forced cells as the released guide's own fill.sh prints them over the translation f2c7682b06cd8050… (all of the seat's roots in one cut). By AI agents, Wed Nov 11 2026. No macro, syntax, notation, axiom, sorry.
-/
import Derived.Test.Qxb6613975aChecked
import GoSem.Claim
import GoSem.ClaimJoined
import GoSem.ClaimMapViews
import Derived.JoinedTies
import Derived.KernelRfl
namespace Go.Proofs.Qxb6613975a
/- THE CELL 'sum', in the pinned program and in every row, IS THE sha256 OF THE DUMP (.gsa) THAT Qxb6613975aProg.lean LOADS. Nothing in Lean hashes anything: it is a label: what it is worth is what the hold of that sum in a sandbox is worth. -/
noncomputable def Try.pinned : Pinned := { name := "qxb6613975a", sum := "f2c7682b06cd80501616e4e3b4c59e1d4e0b0e50775f614095e22b51ac47a52c", checked := Try.checked }
namespace Rows
def none {H : Type} : Left H := { results := [], args := [] }

/-- 'zzlaws_internal_jobfile_b1.FnBareKeyByteIsKeyStartAndTokenByte': WHATEVER THE INPUT: true; the input reads as it did. -/
def fnBareKeyByteIsKeyStartAndTokenByteSpec : ChangeSpec := { name := "fnBareKeyByteIsKeyStartAndTokenByte", fn := fun _ => fun
  | [d1, d2] => { results := [.lit (.bool true)], args := [d1, d2] }
  | _ => none }
def fnBareKeyByteIsKeyStartAndTokenByteRow : OpenClaim := { program := "qxb6613975a", sum := "f2c7682b06cd80501616e4e3b4c59e1d4e0b0e50775f614095e22b51ac47a52c", func := "example.com/carillon/carillon/zzlaws_internal_jobfile_b1.FnBareKeyByteIsKeyStartAndTokenByte", spec := "fnBareKeyByteIsKeyStartAndTokenByte", inPlace := ["internal/bytealg.IndexByteString", "internal/bytealg.IndexString"], named := ["internal/bytealg.MaxLen"], apart := false }
def FnBareKeyByteIsKeyStartAndTokenByteSaid : Prop := fnBareKeyByteIsKeyStartAndTokenByteRow.holds Try.pinned (OpenSpec.ofChange fnBareKeyByteIsKeyStartAndTokenByteSpec)

/-- ITS FALSE NEIGHBOUR: 'it returns false'. Refute it at one input. -/
def fnBareKeyByteIsKeyStartAndTokenByteWrong : ChangeSpec := { name := "fnBareKeyByteIsKeyStartAndTokenByte", fn := fun _ => fun
  | [d1, d2] => { results := [.lit (.bool false)], args := [d1, d2] }
  | _ => none }
def FnBareKeyByteIsKeyStartAndTokenByteWrongFalsely : Prop := fnBareKeyByteIsKeyStartAndTokenByteRow.holds Try.pinned (OpenSpec.ofChange fnBareKeyByteIsKeyStartAndTokenByteWrong)

/-- 'zzlaws_internal_jobfile_b1.FnBareKeyBytesCountedOverEveryByte': WHATEVER THE INPUT: true; the input reads as it did. -/
def fnBareKeyBytesCountedOverEveryByteSpec : ChangeSpec := { name := "fnBareKeyBytesCountedOverEveryByte", fn := fun _ => fun
  | [] => { results := [.lit (.bool true)], args := [] }
  | _ => none }
def fnBareKeyBytesCountedOverEveryByteRow : OpenClaim := { program := "qxb6613975a", sum := "f2c7682b06cd80501616e4e3b4c59e1d4e0b0e50775f614095e22b51ac47a52c", func := "example.com/carillon/carillon/zzlaws_internal_jobfile_b1.FnBareKeyBytesCountedOverEveryByte", spec := "fnBareKeyBytesCountedOverEveryByte", inPlace := ["internal/bytealg.IndexByteString", "internal/bytealg.IndexString"], named := ["internal/bytealg.MaxLen"], apart := false }
def FnBareKeyBytesCountedOverEveryByteSaid : Prop := fnBareKeyBytesCountedOverEveryByteRow.holds Try.pinned (OpenSpec.ofChange fnBareKeyBytesCountedOverEveryByteSpec)

/-- ITS FALSE NEIGHBOUR: 'it returns false'. Refute it at one input. -/
def fnBareKeyBytesCountedOverEveryByteWrong : ChangeSpec := { name := "fnBareKeyBytesCountedOverEveryByte", fn := fun _ => fun
  | [] => { results := [.lit (.bool false)], args := [] }
  | _ => none }
def FnBareKeyBytesCountedOverEveryByteWrongFalsely : Prop := fnBareKeyBytesCountedOverEveryByteRow.holds Try.pinned (OpenSpec.ofChange fnBareKeyBytesCountedOverEveryByteWrong)

end Rows
end Go.Proofs.Qxb6613975a
