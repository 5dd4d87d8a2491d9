/-
  No cell of these rows narrows 'for every input' (looked for: loops, veiled, ifaces, maps, wideKeys, modest, calm, conditions, laid).
  DERIVED. THE GIVEN ROWS OF THIS SEAT. 4 by the template 'for every input the law returns true; each argument reads behind the call as it read before'; 0 by the template 'total and deterministic' (their statements: Qxb6601931aTotals.lean).
  GIVEN WITH THE SEED: the statements are not yours to turn. If you find one false, say at which input.
  Laid BY PROGRAM, IN A SANDBOX (cutbox-rows.mjs): the forced cells as the released guide's own fill.sh prints them over the translation 5b14c4e97fb43173… (all of the seat's roots in one cut). By AI agents, Wed Nov 11 2026. No macro, syntax, notation, axiom, sorry.
-/
import Derived.Test.Qxb6601931aChecked
import GoSem.Claim
import GoSem.ClaimJoined
import GoSem.ClaimMapViews
import Derived.JoinedTies
import Derived.KernelRfl
namespace Go.Proofs.Qxb6601931a
/- THE CELL 'sum', in the pinned program and in every row, IS THE sha256 OF THE DUMP (.gsa) THAT Qxb6601931aProg.lean LOADS. Nothing in Lean hashes anything: it is a label: what it is worth is what the hold of that sum in a sandbox is worth. -/
noncomputable def Try.pinned : Pinned := { name := "qxb6601931a", sum := "5b14c4e97fb43173f0c1505dce77391fe0675fe1fd87a3eb6de2fb3144e2cc97", checked := Try.checked }
namespace Rows
def none {H : Type} : Left H := { results := [], args := [] }

/-- 'zzlaws_internal_postgres_b1.FnWakeStatementIsFixedFrameAroundStatement': WHATEVER THE INPUT: true; the input reads as it did. -/
def fnWakeStatementIsFixedFrameAroundStatementSpec : ChangeSpec := { name := "fnWakeStatementIsFixedFrameAroundStatement", fn := fun _ => fun
  | [d] => { results := [.lit (.bool true)], args := [d] }
  | _ => none }
def fnWakeStatementIsFixedFrameAroundStatementRow : OpenClaim := { program := "qxb6601931a", sum := "5b14c4e97fb43173f0c1505dce77391fe0675fe1fd87a3eb6de2fb3144e2cc97", func := "example.com/keepsent/keepsent/zzlaws_internal_postgres_b1.FnWakeStatementIsFixedFrameAroundStatement", spec := "fnWakeStatementIsFixedFrameAroundStatement", apart := false }
def FnWakeStatementIsFixedFrameAroundStatementSaid : Prop := fnWakeStatementIsFixedFrameAroundStatementRow.holds Try.pinned (OpenSpec.ofChange fnWakeStatementIsFixedFrameAroundStatementSpec)

/-- ITS FALSE NEIGHBOUR: 'it returns false'. Refute it at one input. -/
def fnWakeStatementIsFixedFrameAroundStatementWrong : ChangeSpec := { name := "fnWakeStatementIsFixedFrameAroundStatement", fn := fun _ => fun
  | [d] => { results := [.lit (.bool false)], args := [d] }
  | _ => none }
def FnWakeStatementIsFixedFrameAroundStatementWrongFalsely : Prop := fnWakeStatementIsFixedFrameAroundStatementRow.holds Try.pinned (OpenSpec.ofChange fnWakeStatementIsFixedFrameAroundStatementWrong)

/-- 'zzlaws_internal_postgres_b1.FnWakeStatementInjective': WHATEVER THE INPUT: true; the input reads as it did. -/
def fnWakeStatementInjectiveSpec : ChangeSpec := { name := "fnWakeStatementInjective", fn := fun _ => fun
  | [d1, d2] => { results := [.lit (.bool true)], args := [d1, d2] }
  | _ => none }
def fnWakeStatementInjectiveRow : OpenClaim := { program := "qxb6601931a", sum := "5b14c4e97fb43173f0c1505dce77391fe0675fe1fd87a3eb6de2fb3144e2cc97", func := "example.com/keepsent/keepsent/zzlaws_internal_postgres_b1.FnWakeStatementInjective", spec := "fnWakeStatementInjective", apart := false }
def FnWakeStatementInjectiveSaid : Prop := fnWakeStatementInjectiveRow.holds Try.pinned (OpenSpec.ofChange fnWakeStatementInjectiveSpec)

/-- ITS FALSE NEIGHBOUR: 'it returns false'. Refute it at one input. -/
def fnWakeStatementInjectiveWrong : ChangeSpec := { name := "fnWakeStatementInjective", fn := fun _ => fun
  | [d1, d2] => { results := [.lit (.bool false)], args := [d1, d2] }
  | _ => none }
def FnWakeStatementInjectiveWrongFalsely : Prop := fnWakeStatementInjectiveRow.holds Try.pinned (OpenSpec.ofChange fnWakeStatementInjectiveWrong)

/-- 'zzlaws_internal_postgres_b1.FnWakeFunctionIsFixedFrameAroundBody': WHATEVER THE INPUT: true; the input reads as it did. -/
def fnWakeFunctionIsFixedFrameAroundBodySpec : ChangeSpec := { name := "fnWakeFunctionIsFixedFrameAroundBody", fn := fun _ => fun
  | [d] => { results := [.lit (.bool true)], args := [d] }
  | _ => none }
def fnWakeFunctionIsFixedFrameAroundBodyRow : OpenClaim := { program := "qxb6601931a", sum := "5b14c4e97fb43173f0c1505dce77391fe0675fe1fd87a3eb6de2fb3144e2cc97", func := "example.com/keepsent/keepsent/zzlaws_internal_postgres_b1.FnWakeFunctionIsFixedFrameAroundBody", spec := "fnWakeFunctionIsFixedFrameAroundBody", apart := false }
def FnWakeFunctionIsFixedFrameAroundBodySaid : Prop := fnWakeFunctionIsFixedFrameAroundBodyRow.holds Try.pinned (OpenSpec.ofChange fnWakeFunctionIsFixedFrameAroundBodySpec)

/-- ITS FALSE NEIGHBOUR: 'it returns false'. Refute it at one input. -/
def fnWakeFunctionIsFixedFrameAroundBodyWrong : ChangeSpec := { name := "fnWakeFunctionIsFixedFrameAroundBody", fn := fun _ => fun
  | [d] => { results := [.lit (.bool false)], args := [d] }
  | _ => none }
def FnWakeFunctionIsFixedFrameAroundBodyWrongFalsely : Prop := fnWakeFunctionIsFixedFrameAroundBodyRow.holds Try.pinned (OpenSpec.ofChange fnWakeFunctionIsFixedFrameAroundBodyWrong)

/-- 'zzlaws_internal_postgres_b1.FnWakeFunctionIsWakeStatementOfFramedBody': WHATEVER THE INPUT: true; the input reads as it did. -/
def fnWakeFunctionIsWakeStatementOfFramedBodySpec : ChangeSpec := { name := "fnWakeFunctionIsWakeStatementOfFramedBody", fn := fun _ => fun
  | [d] => { results := [.lit (.bool true)], args := [d] }
  | _ => none }
def fnWakeFunctionIsWakeStatementOfFramedBodyRow : OpenClaim := { program := "qxb6601931a", sum := "5b14c4e97fb43173f0c1505dce77391fe0675fe1fd87a3eb6de2fb3144e2cc97", func := "example.com/keepsent/keepsent/zzlaws_internal_postgres_b1.FnWakeFunctionIsWakeStatementOfFramedBody", spec := "fnWakeFunctionIsWakeStatementOfFramedBody", apart := false }
def FnWakeFunctionIsWakeStatementOfFramedBodySaid : Prop := fnWakeFunctionIsWakeStatementOfFramedBodyRow.holds Try.pinned (OpenSpec.ofChange fnWakeFunctionIsWakeStatementOfFramedBodySpec)

/-- ITS FALSE NEIGHBOUR: 'it returns false'. Refute it at one input. -/
def fnWakeFunctionIsWakeStatementOfFramedBodyWrong : ChangeSpec := { name := "fnWakeFunctionIsWakeStatementOfFramedBody", fn := fun _ => fun
  | [d] => { results := [.lit (.bool false)], args := [d] }
  | _ => none }
def FnWakeFunctionIsWakeStatementOfFramedBodyWrongFalsely : Prop := fnWakeFunctionIsWakeStatementOfFramedBodyRow.holds Try.pinned (OpenSpec.ofChange fnWakeFunctionIsWakeStatementOfFramedBodyWrong)

end Rows
end Go.Proofs.Qxb6601931a
