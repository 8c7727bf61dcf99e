/-
  No cell of these rows narrows 'for every input' (looked for: loops, veiled, ifaces, maps, wideKeys, modest, calm, conditions, laid).
  DERIVED. THE GIVEN ROWS OF THIS SEAT. 3 by the template 'for every input the law returns true; each argument reads behind the call as it read before'; 0 by the template 'total and deterministic' (their statements: Qxb6618088aTotals.lean).
  GIVEN WITH THE SEED: the statements are not yours to turn. If you find one false, say at which input.
  Laid BY PROGRAM, IN A SANDBOX (cutbox-rows.mjs): the forced cells as the released guide's own fill.sh prints them over the translation fc0b1b0c142b06fd… (all of the seat's roots in one cut). By AI agents, Wed Nov 11 2026. No macro, syntax, notation, axiom, sorry.
-/
import Derived.Test.Qxb6618088aChecked
import GoSem.Claim
import GoSem.ClaimJoined
import GoSem.ClaimMapViews
import Derived.JoinedTies
import Derived.KernelRfl
namespace Go.Proofs.Qxb6618088a
/- THE CELL 'sum', in the pinned program and in every row, IS THE sha256 OF THE DUMP (.gsa) THAT Qxb6618088aProg.lean LOADS. Nothing in Lean hashes anything: it is a label: what it is worth is what the hold of that sum in a sandbox is worth. -/
noncomputable def Try.pinned : Pinned := { name := "qxb6618088a", sum := "fc0b1b0c142b06fd8fa6f176ba78d96a20a8f9a155aa9b59074179d5f1b10155", checked := Try.checked }
namespace Rows
def none {H : Type} : Left H := { results := [], args := [] }

/-- 'zzlaws_internal_envfile_b1.FnIsNameAnyCut': WHATEVER THE INPUT: true; the input reads as it did. -/
def fnIsNameAnyCutSpec : ChangeSpec := { name := "fnIsNameAnyCut", fn := fun _ => fun
  | [d1, d2] => { results := [.lit (.bool true)], args := [d1, d2] }
  | _ => none }
def fnIsNameAnyCutRow : OpenClaim := { program := "qxb6618088a", sum := "fc0b1b0c142b06fd8fa6f176ba78d96a20a8f9a155aa9b59074179d5f1b10155", func := "example.com/envhoist/envhoist/zzlaws_internal_envfile_b1.FnIsNameAnyCut", spec := "fnIsNameAnyCut", apart := false }
def FnIsNameAnyCutSaid : Prop := fnIsNameAnyCutRow.holds Try.pinned (OpenSpec.ofChange fnIsNameAnyCutSpec)

/-- ITS FALSE NEIGHBOUR: 'it returns false'. Refute it at one input. -/
def fnIsNameAnyCutWrong : ChangeSpec := { name := "fnIsNameAnyCut", fn := fun _ => fun
  | [d1, d2] => { results := [.lit (.bool false)], args := [d1, d2] }
  | _ => none }
def FnIsNameAnyCutWrongFalsely : Prop := fnIsNameAnyCutRow.holds Try.pinned (OpenSpec.ofChange fnIsNameAnyCutWrong)

/-- 'zzlaws_internal_envfile_b1.FnCutCommentAnyCut': WHATEVER THE INPUT: true; the input reads as it did. -/
def fnCutCommentAnyCutSpec : ChangeSpec := { name := "fnCutCommentAnyCut", fn := fun _ => fun
  | [d1, d2] => { results := [.lit (.bool true)], args := [d1, d2] }
  | _ => none }
def fnCutCommentAnyCutRow : OpenClaim := { program := "qxb6618088a", sum := "fc0b1b0c142b06fd8fa6f176ba78d96a20a8f9a155aa9b59074179d5f1b10155", func := "example.com/envhoist/envhoist/zzlaws_internal_envfile_b1.FnCutCommentAnyCut", spec := "fnCutCommentAnyCut", apart := false }
def FnCutCommentAnyCutSaid : Prop := fnCutCommentAnyCutRow.holds Try.pinned (OpenSpec.ofChange fnCutCommentAnyCutSpec)

/-- ITS FALSE NEIGHBOUR: 'it returns false'. Refute it at one input. -/
def fnCutCommentAnyCutWrong : ChangeSpec := { name := "fnCutCommentAnyCut", fn := fun _ => fun
  | [d1, d2] => { results := [.lit (.bool false)], args := [d1, d2] }
  | _ => none }
def FnCutCommentAnyCutWrongFalsely : Prop := fnCutCommentAnyCutRow.holds Try.pinned (OpenSpec.ofChange fnCutCommentAnyCutWrong)

/-- 'zzlaws_internal_envfile_b1.FnCutCommentTailIgnored': WHATEVER THE INPUT: true; the input reads as it did. -/
def fnCutCommentTailIgnoredSpec : ChangeSpec := { name := "fnCutCommentTailIgnored", fn := fun _ => fun
  | [d1, d2] => { results := [.lit (.bool true)], args := [d1, d2] }
  | _ => none }
def fnCutCommentTailIgnoredRow : OpenClaim := { program := "qxb6618088a", sum := "fc0b1b0c142b06fd8fa6f176ba78d96a20a8f9a155aa9b59074179d5f1b10155", func := "example.com/envhoist/envhoist/zzlaws_internal_envfile_b1.FnCutCommentTailIgnored", spec := "fnCutCommentTailIgnored", apart := false }
def FnCutCommentTailIgnoredSaid : Prop := fnCutCommentTailIgnoredRow.holds Try.pinned (OpenSpec.ofChange fnCutCommentTailIgnoredSpec)

/-- ITS FALSE NEIGHBOUR: 'it returns false'. Refute it at one input. -/
def fnCutCommentTailIgnoredWrong : ChangeSpec := { name := "fnCutCommentTailIgnored", fn := fun _ => fun
  | [d1, d2] => { results := [.lit (.bool false)], args := [d1, d2] }
  | _ => none }
def FnCutCommentTailIgnoredWrongFalsely : Prop := fnCutCommentTailIgnoredRow.holds Try.pinned (OpenSpec.ofChange fnCutCommentTailIgnoredWrong)

end Rows
end Go.Proofs.Qxb6618088a
