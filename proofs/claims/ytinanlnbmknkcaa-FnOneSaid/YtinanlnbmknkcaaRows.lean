/-
  No cell of these rows narrows 'for every input' (looked for: loops, veiled, ifaces, maps, wideKeys, modest, calm, conditions, laid).
  DERIVED. THE GIVEN ROWS OF THIS SEAT. 6 by the template 'for every input the law returns true; each argument reads behind the call as it read before'; 0 by the template 'total and deterministic' (their statements: YtinanlnbmknkcaaTotals.lean).
  GIVEN WITH THE SEED: the statements are not yours to turn. If you find one false, say at which input.
  Laid BY PROGRAM, IN A SANDBOX (cutbox-rows.mjs): the forced cells as the released guide's own fill.sh prints them over the translation b7642f3d3b148900… (all of the seat's roots in one cut). By AI agents, Wed Nov 11 2026. No macro, syntax, notation, axiom, sorry.
-/
import Derived.Test.YtinanlnbmknkcaaChecked
import GoSem.Claim
import GoSem.ClaimJoined
import GoSem.ClaimMapViews
import Derived.JoinedTies
import Derived.KernelRfl
namespace Go.Proofs.Ytinanlnbmknkcaa
/- THE CELL 'sum', in the pinned program and in every row, IS THE sha256 OF THE DUMP (.gsa) THAT YtinanlnbmknkcaaProg.lean LOADS. Nothing in Lean hashes anything: it is a label: what it is worth is what the hold of that sum in a sandbox is worth. -/
noncomputable def Try.pinned : Pinned := { name := "ytinanlnbmknkcaa", sum := "b7642f3d3b14890080fdcf1fa3848c5dca22f934992cd12391dfb694c2164a5a", checked := Try.checked }
namespace Rows
def none {H : Type} : Left H := { results := [], args := [] }

/-- 'laws.FnHas': WHATEVER THE INPUT: true; the input reads as it did. -/
def fnHasSpec : ChangeSpec := { name := "fnHas", fn := fun _ => fun
  | [d1, d2] => { results := [.lit (.bool true)], args := [d1, d2] }
  | _ => none }
def fnHasRow : OpenClaim := { program := "ytinanlnbmknkcaa", sum := "b7642f3d3b14890080fdcf1fa3848c5dca22f934992cd12391dfb694c2164a5a", func := "loop.example/pub-g03130/laws.FnHas", spec := "fnHas", apart := false }
def FnHasSaid : Prop := fnHasRow.holds Try.pinned (OpenSpec.ofChange fnHasSpec)

/-- ITS FALSE NEIGHBOUR: 'it returns false'. Refute it at one input. -/
def fnHasWrong : ChangeSpec := { name := "fnHas", fn := fun _ => fun
  | [d1, d2] => { results := [.lit (.bool false)], args := [d1, d2] }
  | _ => none }
def FnHasWrongFalsely : Prop := fnHasRow.holds Try.pinned (OpenSpec.ofChange fnHasWrong)

/-- 'laws.FnHasSelf': WHATEVER THE INPUT: true; the input reads as it did. -/
def fnHasSelfSpec : ChangeSpec := { name := "fnHasSelf", fn := fun _ => fun
  | [d1, d2] => { results := [.lit (.bool true)], args := [d1, d2] }
  | _ => none }
def fnHasSelfRow : OpenClaim := { program := "ytinanlnbmknkcaa", sum := "b7642f3d3b14890080fdcf1fa3848c5dca22f934992cd12391dfb694c2164a5a", func := "loop.example/pub-g03130/laws.FnHasSelf", spec := "fnHasSelf", apart := false }
def FnHasSelfSaid : Prop := fnHasSelfRow.holds Try.pinned (OpenSpec.ofChange fnHasSelfSpec)

/-- ITS FALSE NEIGHBOUR: 'it returns false'. Refute it at one input. -/
def fnHasSelfWrong : ChangeSpec := { name := "fnHasSelf", fn := fun _ => fun
  | [d1, d2] => { results := [.lit (.bool false)], args := [d1, d2] }
  | _ => none }
def FnHasSelfWrongFalsely : Prop := fnHasSelfRow.holds Try.pinned (OpenSpec.ofChange fnHasSelfWrong)

/-- 'laws.FnOne': WHATEVER THE INPUT: true; the input reads as it did. -/
def fnOneSpec : ChangeSpec := { name := "fnOne", fn := fun _ => fun
  | [d1, d2, d3, d4] => { results := [.lit (.bool true)], args := [d1, d2, d3, d4] }
  | _ => none }
def fnOneRow : OpenClaim := { program := "ytinanlnbmknkcaa", sum := "b7642f3d3b14890080fdcf1fa3848c5dca22f934992cd12391dfb694c2164a5a", func := "loop.example/pub-g03130/laws.FnOne", spec := "fnOne", apart := false }
def FnOneSaid : Prop := fnOneRow.holds Try.pinned (OpenSpec.ofChange fnOneSpec)

/-- ITS FALSE NEIGHBOUR: 'it returns false'. Refute it at one input. -/
def fnOneWrong : ChangeSpec := { name := "fnOne", fn := fun _ => fun
  | [d1, d2, d3, d4] => { results := [.lit (.bool false)], args := [d1, d2, d3, d4] }
  | _ => none }
def FnOneWrongFalsely : Prop := fnOneRow.holds Try.pinned (OpenSpec.ofChange fnOneWrong)

/-- 'laws.FnKept': WHATEVER THE INPUT: true; the input reads as it did. -/
def fnKeptSpec : ChangeSpec := { name := "fnKept", fn := fun _ => fun
  | [d1, d2, d3] => { results := [.lit (.bool true)], args := [d1, d2, d3] }
  | _ => none }
def fnKeptRow : OpenClaim := { program := "ytinanlnbmknkcaa", sum := "b7642f3d3b14890080fdcf1fa3848c5dca22f934992cd12391dfb694c2164a5a", func := "loop.example/pub-g03130/laws.FnKept", spec := "fnKept", apart := false }
def FnKeptSaid : Prop := fnKeptRow.holds Try.pinned (OpenSpec.ofChange fnKeptSpec)

/-- ITS FALSE NEIGHBOUR: 'it returns false'. Refute it at one input. -/
def fnKeptWrong : ChangeSpec := { name := "fnKept", fn := fun _ => fun
  | [d1, d2, d3] => { results := [.lit (.bool false)], args := [d1, d2, d3] }
  | _ => none }
def FnKeptWrongFalsely : Prop := fnKeptRow.holds Try.pinned (OpenSpec.ofChange fnKeptWrong)

/-- 'laws.FnRemoved': WHATEVER THE INPUT: true; the input reads as it did. -/
def fnRemovedSpec : ChangeSpec := { name := "fnRemoved", fn := fun _ => fun
  | [d1, d2] => { results := [.lit (.bool true)], args := [d1, d2] }
  | _ => none }
def fnRemovedRow : OpenClaim := { program := "ytinanlnbmknkcaa", sum := "b7642f3d3b14890080fdcf1fa3848c5dca22f934992cd12391dfb694c2164a5a", func := "loop.example/pub-g03130/laws.FnRemoved", spec := "fnRemoved", apart := false }
def FnRemovedSaid : Prop := fnRemovedRow.holds Try.pinned (OpenSpec.ofChange fnRemovedSpec)

/-- ITS FALSE NEIGHBOUR: 'it returns false'. Refute it at one input. -/
def fnRemovedWrong : ChangeSpec := { name := "fnRemoved", fn := fun _ => fun
  | [d1, d2] => { results := [.lit (.bool false)], args := [d1, d2] }
  | _ => none }
def FnRemovedWrongFalsely : Prop := fnRemovedRow.holds Try.pinned (OpenSpec.ofChange fnRemovedWrong)

/-- 'laws.FnRewrite': WHATEVER THE INPUT: true; the input reads as it did. -/
def fnRewriteSpec : ChangeSpec := { name := "fnRewrite", fn := fun _ => fun
  | [d1, d2, d3] => { results := [.lit (.bool true)], args := [d1, d2, d3] }
  | _ => none }
def fnRewriteRow : OpenClaim := { program := "ytinanlnbmknkcaa", sum := "b7642f3d3b14890080fdcf1fa3848c5dca22f934992cd12391dfb694c2164a5a", func := "loop.example/pub-g03130/laws.FnRewrite", spec := "fnRewrite", apart := false }
def FnRewriteSaid : Prop := fnRewriteRow.holds Try.pinned (OpenSpec.ofChange fnRewriteSpec)

/-- ITS FALSE NEIGHBOUR: 'it returns false'. Refute it at one input. -/
def fnRewriteWrong : ChangeSpec := { name := "fnRewrite", fn := fun _ => fun
  | [d1, d2, d3] => { results := [.lit (.bool false)], args := [d1, d2, d3] }
  | _ => none }
def FnRewriteWrongFalsely : Prop := fnRewriteRow.holds Try.pinned (OpenSpec.ofChange fnRewriteWrong)

/- THE SECOND FORM. 'bulk': how many values and letters a reading holds, each counted each time it is reached (what is shared counts as often as it is met; a slice's spare places count too). A statement '..UptoSaid' is the law's where the arguments, and the package variables that the reading takes, are together of bulk at most 1048576: NARROWER than '..Said'. Prove '..Said' where nothing that the law and all that it calls make is longer than what came in: it says more and counts as full. Else prove '..UptoSaid'. A law counts once. -/
mutual
def uptoBulk {H : Type} : DataW H → Nat
  | .lit (.string bytes) => bytes.length + 1
  | .lit _ => 1
  | .nil => 1
  | .ptr d => uptoBulk d + 1
  | .slice elems spare => uptoBulkAll elems + uptoBulkAll spare + 1
  | .agg parts => uptoBulkAll parts + 1
  | .iface _ d => uptoBulk d + 1
  | .map entries => uptoBulkEntries entries + 1
  | .held _ => 1
def uptoBulkAll {H : Type} : List (DataW H) → Nat
  | [] => 0
  | d :: r => uptoBulk d + uptoBulkAll r
def uptoBulkEntries {H : Type} : List (Lit × DataW H) → Nat
  | [] => 0
  | x :: r => uptoBulkEntry x + uptoBulkEntries r
def uptoBulkEntry {H : Type} : Lit × DataW H → Nat
  | (.string bytes, d) => bytes.length + uptoBulk d + 1
  | (_, d) => uptoBulk d + 1
 end
def uptoSmall : (H : Type) → List (DataW H) → Bool := fun _ ds => decide (uptoBulkAll ds ≤ 1048576)
def OpenSpec.upto (s : _root_.Go.ChangeSpec) : _root_.Go.OpenSpec := { _root_.Go.OpenSpec.ofChange s with cond := some uptoSmall }

/-- 'laws.FnHas', WHERE WHAT IT READS IS OF BULK AT MOST 1048576: true; the input reads as it did. -/
def fnHasUptoRow : OpenClaim := { program := "ytinanlnbmknkcaa", sum := "b7642f3d3b14890080fdcf1fa3848c5dca22f934992cd12391dfb694c2164a5a", func := "loop.example/pub-g03130/laws.FnHas", spec := "fnHas", apart := false, narrowed := true }
def FnHasUptoSaid : Prop := fnHasUptoRow.holds Try.pinned (OpenSpec.upto fnHasSpec)

/-- 'laws.FnHasSelf', WHERE WHAT IT READS IS OF BULK AT MOST 1048576: true; the input reads as it did. -/
def fnHasSelfUptoRow : OpenClaim := { program := "ytinanlnbmknkcaa", sum := "b7642f3d3b14890080fdcf1fa3848c5dca22f934992cd12391dfb694c2164a5a", func := "loop.example/pub-g03130/laws.FnHasSelf", spec := "fnHasSelf", apart := false, narrowed := true }
def FnHasSelfUptoSaid : Prop := fnHasSelfUptoRow.holds Try.pinned (OpenSpec.upto fnHasSelfSpec)

/-- 'laws.FnOne', WHERE WHAT IT READS IS OF BULK AT MOST 1048576: true; the input reads as it did. -/
def fnOneUptoRow : OpenClaim := { program := "ytinanlnbmknkcaa", sum := "b7642f3d3b14890080fdcf1fa3848c5dca22f934992cd12391dfb694c2164a5a", func := "loop.example/pub-g03130/laws.FnOne", spec := "fnOne", apart := false, narrowed := true }
def FnOneUptoSaid : Prop := fnOneUptoRow.holds Try.pinned (OpenSpec.upto fnOneSpec)

/-- 'laws.FnKept', WHERE WHAT IT READS IS OF BULK AT MOST 1048576: true; the input reads as it did. -/
def fnKeptUptoRow : OpenClaim := { program := "ytinanlnbmknkcaa", sum := "b7642f3d3b14890080fdcf1fa3848c5dca22f934992cd12391dfb694c2164a5a", func := "loop.example/pub-g03130/laws.FnKept", spec := "fnKept", apart := false, narrowed := true }
def FnKeptUptoSaid : Prop := fnKeptUptoRow.holds Try.pinned (OpenSpec.upto fnKeptSpec)

/-- 'laws.FnRemoved', WHERE WHAT IT READS IS OF BULK AT MOST 1048576: true; the input reads as it did. -/
def fnRemovedUptoRow : OpenClaim := { program := "ytinanlnbmknkcaa", sum := "b7642f3d3b14890080fdcf1fa3848c5dca22f934992cd12391dfb694c2164a5a", func := "loop.example/pub-g03130/laws.FnRemoved", spec := "fnRemoved", apart := false, narrowed := true }
def FnRemovedUptoSaid : Prop := fnRemovedUptoRow.holds Try.pinned (OpenSpec.upto fnRemovedSpec)

/-- 'laws.FnRewrite', WHERE WHAT IT READS IS OF BULK AT MOST 1048576: true; the input reads as it did. -/
def fnRewriteUptoRow : OpenClaim := { program := "ytinanlnbmknkcaa", sum := "b7642f3d3b14890080fdcf1fa3848c5dca22f934992cd12391dfb694c2164a5a", func := "loop.example/pub-g03130/laws.FnRewrite", spec := "fnRewrite", apart := false, narrowed := true }
def FnRewriteUptoSaid : Prop := fnRewriteUptoRow.holds Try.pinned (OpenSpec.upto fnRewriteSpec)

end Rows
end Go.Proofs.Ytinanlnbmknkcaa
