/-
  No cell of these rows narrows 'for every input' (looked for: loops, veiled, ifaces, maps, wideKeys, modest, calm, conditions, laid).
  DERIVED. THE GIVEN ROWS OF THIS SEAT. 4 by the template 'for every input the law returns true; each argument reads behind the call as it read before'; 0 by the template 'total and deterministic' (their statements: YtnlebcllloceoaaTotals.lean).
  GIVEN WITH THE SEED: the statements are not yours to turn. If you find one false, say at which input.
  Laid BY PROGRAM, IN A SANDBOX (cutbox-rows.mjs): the forced cells as the released guide's own fill.sh prints them over the translation 9b52a4a550d9c5b0… (all of the seat's roots in one cut). By AI agents, Wed Nov 11 2026. No macro, syntax, notation, axiom, sorry.
-/
import Derived.Test.YtnlebcllloceoaaChecked
import GoSem.Claim
import GoSem.ClaimJoined
import GoSem.ClaimMapViews
import Derived.JoinedTies
import Derived.KernelRfl
namespace Go.Proofs.Ytnlebcllloceoaa
/- THE CELL 'sum', in the pinned program and in every row, IS THE sha256 OF THE DUMP (.gsa) THAT YtnlebcllloceoaaProg.lean LOADS. Nothing in Lean hashes anything: it is a label: what it is worth is what the hold of that sum in a sandbox is worth. -/
noncomputable def Try.pinned : Pinned := { name := "ytnlebcllloceoaa", sum := "9b52a4a550d9c5b0fdfb4811be9fd1c092222eda7d85a2fbc36ebe2509d691fe", checked := Try.checked }
namespace Rows
def none {H : Type} : Left H := { results := [], args := [] }

/-- 'laws.FnApart': WHATEVER THE INPUT: true; the input reads as it did. -/
def fnApartSpec : ChangeSpec := { name := "fnApart", fn := fun _ => fun
  | [d1, d2] => { results := [.lit (.bool true)], args := [d1, d2] }
  | _ => none }
def fnApartRow : OpenClaim := { program := "ytnlebcllloceoaa", sum := "9b52a4a550d9c5b0fdfb4811be9fd1c092222eda7d85a2fbc36ebe2509d691fe", func := "loop.example/pub-g03130/laws.FnApart", spec := "fnApart", apart := false }
def FnApartSaid : Prop := fnApartRow.holds Try.pinned (OpenSpec.ofChange fnApartSpec)

/-- ITS FALSE NEIGHBOUR: 'it returns false'. Refute it at one input. -/
def fnApartWrong : ChangeSpec := { name := "fnApart", fn := fun _ => fun
  | [d1, d2] => { results := [.lit (.bool false)], args := [d1, d2] }
  | _ => none }
def FnApartWrongFalsely : Prop := fnApartRow.holds Try.pinned (OpenSpec.ofChange fnApartWrong)

/-- 'laws.FnClean': WHATEVER THE INPUT: true; the input reads as it did. -/
def fnCleanSpec : ChangeSpec := { name := "fnClean", fn := fun _ => fun
  | [d] => { results := [.lit (.bool true)], args := [d] }
  | _ => none }
def fnCleanRow : OpenClaim := { program := "ytnlebcllloceoaa", sum := "9b52a4a550d9c5b0fdfb4811be9fd1c092222eda7d85a2fbc36ebe2509d691fe", func := "loop.example/pub-g03130/laws.FnClean", spec := "fnClean", apart := false }
def FnCleanSaid : Prop := fnCleanRow.holds Try.pinned (OpenSpec.ofChange fnCleanSpec)

/-- ITS FALSE NEIGHBOUR: 'it returns false'. Refute it at one input. -/
def fnCleanWrong : ChangeSpec := { name := "fnClean", fn := fun _ => fun
  | [d] => { results := [.lit (.bool false)], args := [d] }
  | _ => none }
def FnCleanWrongFalsely : Prop := fnCleanRow.holds Try.pinned (OpenSpec.ofChange fnCleanWrong)

/-- 'laws.FnJoin': WHATEVER THE INPUT: true; the input reads as it did. -/
def fnJoinSpec : ChangeSpec := { name := "fnJoin", fn := fun _ => fun
  | [d1, d2] => { results := [.lit (.bool true)], args := [d1, d2] }
  | _ => none }
def fnJoinRow : OpenClaim := { program := "ytnlebcllloceoaa", sum := "9b52a4a550d9c5b0fdfb4811be9fd1c092222eda7d85a2fbc36ebe2509d691fe", func := "loop.example/pub-g03130/laws.FnJoin", spec := "fnJoin", apart := false }
def FnJoinSaid : Prop := fnJoinRow.holds Try.pinned (OpenSpec.ofChange fnJoinSpec)

/-- ITS FALSE NEIGHBOUR: 'it returns false'. Refute it at one input. -/
def fnJoinWrong : ChangeSpec := { name := "fnJoin", fn := fun _ => fun
  | [d1, d2] => { results := [.lit (.bool false)], args := [d1, d2] }
  | _ => none }
def FnJoinWrongFalsely : Prop := fnJoinRow.holds Try.pinned (OpenSpec.ofChange fnJoinWrong)

/-- 'laws.FnPrefix': WHATEVER THE INPUT: true; the input reads as it did. -/
def fnPrefixSpec : ChangeSpec := { name := "fnPrefix", fn := fun _ => fun
  | [d] => { results := [.lit (.bool true)], args := [d] }
  | _ => none }
def fnPrefixRow : OpenClaim := { program := "ytnlebcllloceoaa", sum := "9b52a4a550d9c5b0fdfb4811be9fd1c092222eda7d85a2fbc36ebe2509d691fe", func := "loop.example/pub-g03130/laws.FnPrefix", spec := "fnPrefix", apart := false }
def FnPrefixSaid : Prop := fnPrefixRow.holds Try.pinned (OpenSpec.ofChange fnPrefixSpec)

/-- ITS FALSE NEIGHBOUR: 'it returns false'. Refute it at one input. -/
def fnPrefixWrong : ChangeSpec := { name := "fnPrefix", fn := fun _ => fun
  | [d] => { results := [.lit (.bool false)], args := [d] }
  | _ => none }
def FnPrefixWrongFalsely : Prop := fnPrefixRow.holds Try.pinned (OpenSpec.ofChange fnPrefixWrong)

/- THE SECOND FORM. 'bulk': how many values and letters a reading holds, each counted each time it is reached (what is shared counts as often as it is met; a slice's spare places count too). A statement '..UptoSaid' is the law's where the arguments, and the package variables that the reading takes, are together of bulk at most 1048576: NARROWER than '..Said'. Prove '..Said' where nothing that the law and all that it calls make is longer than what came in: it says more and counts as full. Else prove '..UptoSaid'. A law counts once. -/
mutual
def uptoBulk {H : Type} : DataW H → Nat
  | .lit (.string bytes) => bytes.length + 1
  | .lit _ => 1
  | .nil => 1
  | .ptr d => uptoBulk d + 1
  | .slice elems spare => uptoBulkAll elems + uptoBulkAll spare + 1
  | .agg parts => uptoBulkAll parts + 1
  | .iface _ d => uptoBulk d + 1
  | .map entries => uptoBulkEntries entries + 1
  | .held _ => 1
def uptoBulkAll {H : Type} : List (DataW H) → Nat
  | [] => 0
  | d :: r => uptoBulk d + uptoBulkAll r
def uptoBulkEntries {H : Type} : List (Lit × DataW H) → Nat
  | [] => 0
  | x :: r => uptoBulkEntry x + uptoBulkEntries r
def uptoBulkEntry {H : Type} : Lit × DataW H → Nat
  | (.string bytes, d) => bytes.length + uptoBulk d + 1
  | (_, d) => uptoBulk d + 1
 end
def uptoSmall : (H : Type) → List (DataW H) → Bool := fun _ ds => decide (uptoBulkAll ds ≤ 1048576)
def OpenSpec.upto (s : _root_.Go.ChangeSpec) : _root_.Go.OpenSpec := { _root_.Go.OpenSpec.ofChange s with cond := some uptoSmall }

/-- 'laws.FnApart', WHERE WHAT IT READS IS OF BULK AT MOST 1048576: true; the input reads as it did. -/
def fnApartUptoRow : OpenClaim := { program := "ytnlebcllloceoaa", sum := "9b52a4a550d9c5b0fdfb4811be9fd1c092222eda7d85a2fbc36ebe2509d691fe", func := "loop.example/pub-g03130/laws.FnApart", spec := "fnApart", apart := false, narrowed := true }
def FnApartUptoSaid : Prop := fnApartUptoRow.holds Try.pinned (OpenSpec.upto fnApartSpec)

/-- 'laws.FnClean', WHERE WHAT IT READS IS OF BULK AT MOST 1048576: true; the input reads as it did. -/
def fnCleanUptoRow : OpenClaim := { program := "ytnlebcllloceoaa", sum := "9b52a4a550d9c5b0fdfb4811be9fd1c092222eda7d85a2fbc36ebe2509d691fe", func := "loop.example/pub-g03130/laws.FnClean", spec := "fnClean", apart := false, narrowed := true }
def FnCleanUptoSaid : Prop := fnCleanUptoRow.holds Try.pinned (OpenSpec.upto fnCleanSpec)

/-- 'laws.FnJoin', WHERE WHAT IT READS IS OF BULK AT MOST 1048576: true; the input reads as it did. -/
def fnJoinUptoRow : OpenClaim := { program := "ytnlebcllloceoaa", sum := "9b52a4a550d9c5b0fdfb4811be9fd1c092222eda7d85a2fbc36ebe2509d691fe", func := "loop.example/pub-g03130/laws.FnJoin", spec := "fnJoin", apart := false, narrowed := true }
def FnJoinUptoSaid : Prop := fnJoinUptoRow.holds Try.pinned (OpenSpec.upto fnJoinSpec)

/-- 'laws.FnPrefix', WHERE WHAT IT READS IS OF BULK AT MOST 1048576: true; the input reads as it did. -/
def fnPrefixUptoRow : OpenClaim := { program := "ytnlebcllloceoaa", sum := "9b52a4a550d9c5b0fdfb4811be9fd1c092222eda7d85a2fbc36ebe2509d691fe", func := "loop.example/pub-g03130/laws.FnPrefix", spec := "fnPrefix", apart := false, narrowed := true }
def FnPrefixUptoSaid : Prop := fnPrefixUptoRow.holds Try.pinned (OpenSpec.upto fnPrefixSpec)

end Rows
end Go.Proofs.Ytnlebcllloceoaa
