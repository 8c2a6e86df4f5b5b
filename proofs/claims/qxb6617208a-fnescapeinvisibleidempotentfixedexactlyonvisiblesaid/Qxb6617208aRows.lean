/-
  No cell of these rows narrows 'for every input' (looked for: loops, veiled, ifaces, maps, wideKeys, modest, calm, conditions, laid).
  DERIVED. THE GIVEN ROWS OF THIS SEAT. 3 by the template 'for every input the law returns true; each argument reads behind the call as it read before'; 0 by the template 'total and deterministic' (their statements: Qxb6617208aTotals.lean).
  GIVEN WITH THE SEED: the statements are not yours to turn. If you find one false, say at which input.
  Laid BY PROGRAM, IN A SANDBOX (cutbox-rows.mjs): the forced cells as the released guide's own fill.sh prints them over the translation b15aa1323c9969fe… (all of the seat's roots in one cut). By AI agents, Wed Nov 11 2026. No macro, syntax, notation, axiom, sorry.
-/
import Derived.Test.Qxb6617208aChecked
import GoSem.Claim
import GoSem.ClaimJoined
import GoSem.ClaimMapViews
import Derived.JoinedTies
import Derived.KernelRfl
namespace Go.Proofs.Qxb6617208a
/- THE CELL 'sum', in the pinned program and in every row, IS THE sha256 OF THE DUMP (.gsa) THAT Qxb6617208aProg.lean LOADS. Nothing in Lean hashes anything: it is a label: what it is worth is what the hold of that sum in a sandbox is worth. -/
noncomputable def Try.pinned : Pinned := { name := "qxb6617208a", sum := "b15aa1323c9969feac4b8b370a6d5ddb94a1b3b20f8e9499180ed4b8e460566a", checked := Try.checked }
namespace Rows
def none {H : Type} : Left H := { results := [], args := [] }

/-- 'zzlaws_nethttp_b1.FnEscapeInvisibleReadsBackByteByByte': WHATEVER THE INPUT: true; the input reads as it did. -/
def fnEscapeInvisibleReadsBackByteByByteSpec : ChangeSpec := { name := "fnEscapeInvisibleReadsBackByteByByte", fn := fun _ => fun
  | [d] => { results := [.lit (.bool true)], args := [d] }
  | _ => none }
def fnEscapeInvisibleReadsBackByteByByteRow : OpenClaim := { program := "qxb6617208a", sum := "b15aa1323c9969feac4b8b370a6d5ddb94a1b3b20f8e9499180ed4b8e460566a", func := "example.com/antecede/antecede/zzlaws_nethttp_b1.FnEscapeInvisibleReadsBackByteByByte", spec := "fnEscapeInvisibleReadsBackByteByByte", apart := false }
def FnEscapeInvisibleReadsBackByteByByteSaid : Prop := fnEscapeInvisibleReadsBackByteByByteRow.holds Try.pinned (OpenSpec.ofChange fnEscapeInvisibleReadsBackByteByByteSpec)

/-- ITS FALSE NEIGHBOUR: 'it returns false'. Refute it at one input. -/
def fnEscapeInvisibleReadsBackByteByByteWrong : ChangeSpec := { name := "fnEscapeInvisibleReadsBackByteByByte", fn := fun _ => fun
  | [d] => { results := [.lit (.bool false)], args := [d] }
  | _ => none }
def FnEscapeInvisibleReadsBackByteByByteWrongFalsely : Prop := fnEscapeInvisibleReadsBackByteByByteRow.holds Try.pinned (OpenSpec.ofChange fnEscapeInvisibleReadsBackByteByByteWrong)

/-- 'zzlaws_nethttp_b1.FnEscapeInvisibleSplitsAtAnyCut': WHATEVER THE INPUT: true; the input reads as it did. -/
def fnEscapeInvisibleSplitsAtAnyCutSpec : ChangeSpec := { name := "fnEscapeInvisibleSplitsAtAnyCut", fn := fun _ => fun
  | [d1, d2] => { results := [.lit (.bool true)], args := [d1, d2] }
  | _ => none }
def fnEscapeInvisibleSplitsAtAnyCutRow : OpenClaim := { program := "qxb6617208a", sum := "b15aa1323c9969feac4b8b370a6d5ddb94a1b3b20f8e9499180ed4b8e460566a", func := "example.com/antecede/antecede/zzlaws_nethttp_b1.FnEscapeInvisibleSplitsAtAnyCut", spec := "fnEscapeInvisibleSplitsAtAnyCut", apart := false }
def FnEscapeInvisibleSplitsAtAnyCutSaid : Prop := fnEscapeInvisibleSplitsAtAnyCutRow.holds Try.pinned (OpenSpec.ofChange fnEscapeInvisibleSplitsAtAnyCutSpec)

/-- ITS FALSE NEIGHBOUR: 'it returns false'. Refute it at one input. -/
def fnEscapeInvisibleSplitsAtAnyCutWrong : ChangeSpec := { name := "fnEscapeInvisibleSplitsAtAnyCut", fn := fun _ => fun
  | [d1, d2] => { results := [.lit (.bool false)], args := [d1, d2] }
  | _ => none }
def FnEscapeInvisibleSplitsAtAnyCutWrongFalsely : Prop := fnEscapeInvisibleSplitsAtAnyCutRow.holds Try.pinned (OpenSpec.ofChange fnEscapeInvisibleSplitsAtAnyCutWrong)

/-- 'zzlaws_nethttp_b1.FnEscapeInvisibleIdempotentFixedExactlyOnVisible': WHATEVER THE INPUT: true; the input reads as it did. -/
def fnEscapeInvisibleIdempotentFixedExactlyOnVisibleSpec : ChangeSpec := { name := "fnEscapeInvisibleIdempotentFixedExactlyOnVisible", fn := fun _ => fun
  | [d] => { results := [.lit (.bool true)], args := [d] }
  | _ => none }
def fnEscapeInvisibleIdempotentFixedExactlyOnVisibleRow : OpenClaim := { program := "qxb6617208a", sum := "b15aa1323c9969feac4b8b370a6d5ddb94a1b3b20f8e9499180ed4b8e460566a", func := "example.com/antecede/antecede/zzlaws_nethttp_b1.FnEscapeInvisibleIdempotentFixedExactlyOnVisible", spec := "fnEscapeInvisibleIdempotentFixedExactlyOnVisible", apart := false }
def FnEscapeInvisibleIdempotentFixedExactlyOnVisibleSaid : Prop := fnEscapeInvisibleIdempotentFixedExactlyOnVisibleRow.holds Try.pinned (OpenSpec.ofChange fnEscapeInvisibleIdempotentFixedExactlyOnVisibleSpec)

/-- ITS FALSE NEIGHBOUR: 'it returns false'. Refute it at one input. -/
def fnEscapeInvisibleIdempotentFixedExactlyOnVisibleWrong : ChangeSpec := { name := "fnEscapeInvisibleIdempotentFixedExactlyOnVisible", fn := fun _ => fun
  | [d] => { results := [.lit (.bool false)], args := [d] }
  | _ => none }
def FnEscapeInvisibleIdempotentFixedExactlyOnVisibleWrongFalsely : Prop := fnEscapeInvisibleIdempotentFixedExactlyOnVisibleRow.holds Try.pinned (OpenSpec.ofChange fnEscapeInvisibleIdempotentFixedExactlyOnVisibleWrong)

end Rows
end Go.Proofs.Qxb6617208a
