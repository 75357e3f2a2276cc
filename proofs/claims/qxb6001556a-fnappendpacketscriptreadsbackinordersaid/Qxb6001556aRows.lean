/-
  No cell of these rows narrows 'for every input' (looked for: loops, veiled, ifaces, maps, wideKeys, modest, calm, conditions, laid).
  DERIVED. THE GIVEN ROWS OF THIS SEAT. 3 by the template 'for every input the law returns true; each argument reads behind the call as it read before'; 0 by the template 'total and deterministic' (their statements: Qxb6001556aTotals.lean).
  GIVEN WITH THE SEED: the statements are not yours to turn. If you find one false, say at which input.
  Laid BY PROGRAM, IN A SANDBOX (cutbox-rows.mjs): the forced cells as the released guide's own fill.sh prints them over the translation ef9b899ed24dd060… (all of the seat's roots in one cut). By AI agents, Wed Nov 11 2026. No macro, syntax, notation, axiom, sorry.
-/
import Derived.Test.Qxb6001556aChecked
import GoSem.Claim
import GoSem.ClaimJoined
import GoSem.ClaimMapViews
import Derived.JoinedTies
import Derived.KernelRfl
namespace Go.Proofs.Qxb6001556a
/- THE CELL 'sum', in the pinned program and in every row, IS THE sha256 OF THE DUMP (.gsa) THAT Qxb6001556aProg.lean LOADS. Nothing in Lean hashes anything: it is a label: what it is worth is what the hold of that sum in a sandbox is worth. -/
noncomputable def Try.pinned : Pinned := { name := "qxb6001556a", sum := "ef9b899ed24dd06068f293662fb10d60f260de0d33a59126cba9aaf6f2d6e036", checked := Try.checked }
namespace Rows
def none {H : Type} : Left H := { results := [], args := [] }

/-- 'zzlaws_root_b1.FnAppendPacketReadsBackAsOnePacket': WHATEVER THE INPUT: true; the input reads as it did. -/
def fnAppendPacketReadsBackAsOnePacketSpec : ChangeSpec := { name := "fnAppendPacketReadsBackAsOnePacket", fn := fun _ => fun
  | [d1, d2, d3, d4, d5] => { results := [.lit (.bool true)], args := [d1, d2, d3, d4, d5] }
  | _ => none }
def fnAppendPacketReadsBackAsOnePacketRow : OpenClaim := { program := "qxb6001556a", sum := "ef9b899ed24dd06068f293662fb10d60f260de0d33a59126cba9aaf6f2d6e036", func := "example.com/lenwire/lenwire/zzlaws_root_b1.FnAppendPacketReadsBackAsOnePacket", spec := "fnAppendPacketReadsBackAsOnePacket", apart := false }
def FnAppendPacketReadsBackAsOnePacketSaid : Prop := fnAppendPacketReadsBackAsOnePacketRow.holds Try.pinned (OpenSpec.ofChange fnAppendPacketReadsBackAsOnePacketSpec)

/-- ITS FALSE NEIGHBOUR: 'it returns false'. Refute it at one input. -/
def fnAppendPacketReadsBackAsOnePacketWrong : ChangeSpec := { name := "fnAppendPacketReadsBackAsOnePacket", fn := fun _ => fun
  | [d1, d2, d3, d4, d5] => { results := [.lit (.bool false)], args := [d1, d2, d3, d4, d5] }
  | _ => none }
def FnAppendPacketReadsBackAsOnePacketWrongFalsely : Prop := fnAppendPacketReadsBackAsOnePacketRow.holds Try.pinned (OpenSpec.ofChange fnAppendPacketReadsBackAsOnePacketWrong)

/-- 'zzlaws_root_b1.FnAppendPacketIsDstAndRoomIndependent': WHATEVER THE INPUT: true; the input reads as it did. -/
def fnAppendPacketIsDstAndRoomIndependentSpec : ChangeSpec := { name := "fnAppendPacketIsDstAndRoomIndependent", fn := fun _ => fun
  | [d1, d2, d3, d4, d5] => { results := [.lit (.bool true)], args := [d1, d2, d3, d4, d5] }
  | _ => none }
def fnAppendPacketIsDstAndRoomIndependentRow : OpenClaim := { program := "qxb6001556a", sum := "ef9b899ed24dd06068f293662fb10d60f260de0d33a59126cba9aaf6f2d6e036", func := "example.com/lenwire/lenwire/zzlaws_root_b1.FnAppendPacketIsDstAndRoomIndependent", spec := "fnAppendPacketIsDstAndRoomIndependent", apart := false }
def FnAppendPacketIsDstAndRoomIndependentSaid : Prop := fnAppendPacketIsDstAndRoomIndependentRow.holds Try.pinned (OpenSpec.ofChange fnAppendPacketIsDstAndRoomIndependentSpec)

/-- ITS FALSE NEIGHBOUR: 'it returns false'. Refute it at one input. -/
def fnAppendPacketIsDstAndRoomIndependentWrong : ChangeSpec := { name := "fnAppendPacketIsDstAndRoomIndependent", fn := fun _ => fun
  | [d1, d2, d3, d4, d5] => { results := [.lit (.bool false)], args := [d1, d2, d3, d4, d5] }
  | _ => none }
def FnAppendPacketIsDstAndRoomIndependentWrongFalsely : Prop := fnAppendPacketIsDstAndRoomIndependentRow.holds Try.pinned (OpenSpec.ofChange fnAppendPacketIsDstAndRoomIndependentWrong)

/-- 'zzlaws_root_b1.FnAppendPacketScriptReadsBackInOrder': WHATEVER THE INPUT: true; the input reads as it did. -/
def fnAppendPacketScriptReadsBackInOrderSpec : ChangeSpec := { name := "fnAppendPacketScriptReadsBackInOrder", fn := fun _ => fun
  | [d1, d2] => { results := [.lit (.bool true)], args := [d1, d2] }
  | _ => none }
def fnAppendPacketScriptReadsBackInOrderRow : OpenClaim := { program := "qxb6001556a", sum := "ef9b899ed24dd06068f293662fb10d60f260de0d33a59126cba9aaf6f2d6e036", func := "example.com/lenwire/lenwire/zzlaws_root_b1.FnAppendPacketScriptReadsBackInOrder", spec := "fnAppendPacketScriptReadsBackInOrder", apart := false }
def FnAppendPacketScriptReadsBackInOrderSaid : Prop := fnAppendPacketScriptReadsBackInOrderRow.holds Try.pinned (OpenSpec.ofChange fnAppendPacketScriptReadsBackInOrderSpec)

/-- ITS FALSE NEIGHBOUR: 'it returns false'. Refute it at one input. -/
def fnAppendPacketScriptReadsBackInOrderWrong : ChangeSpec := { name := "fnAppendPacketScriptReadsBackInOrder", fn := fun _ => fun
  | [d1, d2] => { results := [.lit (.bool false)], args := [d1, d2] }
  | _ => none }
def FnAppendPacketScriptReadsBackInOrderWrongFalsely : Prop := fnAppendPacketScriptReadsBackInOrderRow.holds Try.pinned (OpenSpec.ofChange fnAppendPacketScriptReadsBackInOrderWrong)

end Rows
end Go.Proofs.Qxb6001556a
