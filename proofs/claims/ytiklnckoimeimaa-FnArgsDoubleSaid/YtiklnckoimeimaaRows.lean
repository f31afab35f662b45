/-
  No cell of these rows narrows 'for every input' (looked for: loops, veiled, ifaces, maps, wideKeys, modest, calm, conditions, laid).
  DERIVED. THE GIVEN ROWS OF THIS SEAT. 6 by the template 'for every input the law returns true; each argument reads behind the call as it read before'; 0 by the template 'total and deterministic' (their statements: YtiklnckoimeimaaTotals.lean).
  GIVEN WITH THE SEED: the statements are not yours to turn. If you find one false, say at which input.
  Laid BY PROGRAM, IN A SANDBOX (cutbox-rows.mjs): the forced cells as the released guide's own fill.sh prints them over the translation d5bbb3f21714d355… (all of the seat's roots in one cut). By AI agents, Wed Nov 11 2026. No macro, syntax, notation, axiom, sorry.
-/
import Derived.Test.YtiklnckoimeimaaChecked
import GoSem.Claim
import GoSem.ClaimJoined
import GoSem.ClaimMapViews
import Derived.JoinedTies
import Derived.KernelRfl
namespace Go.Proofs.Ytiklnckoimeimaa
/- THE CELL 'sum', in the pinned program and in every row, IS THE sha256 OF THE DUMP (.gsa) THAT YtiklnckoimeimaaProg.lean LOADS. Nothing in Lean hashes anything: it is a label: what it is worth is what the hold of that sum in a sandbox is worth. -/
noncomputable def Try.pinned : Pinned := { name := "ytiklnckoimeimaa", sum := "d5bbb3f21714d355da19a030bfda07a24d6cded37cd4c007d359ac4ec821a238", checked := Try.checked }
namespace Rows
def none {H : Type} : Left H := { results := [], args := [] }

/-- 'laws.FnArgs': WHATEVER THE INPUT: true; the input reads as it did. -/
def fnArgsSpec : ChangeSpec := { name := "fnArgs", fn := fun _ => fun
  | [d] => { results := [.lit (.bool true)], args := [d] }
  | _ => none }
def fnArgsRow : OpenClaim := { program := "ytiklnckoimeimaa", sum := "d5bbb3f21714d355da19a030bfda07a24d6cded37cd4c007d359ac4ec821a238", func := "loop.example/pub-g03130/laws.FnArgs", spec := "fnArgs", inPlace := ["internal/abi.NoEscape"], apart := false }
def FnArgsSaid : Prop := fnArgsRow.holds Try.pinned (OpenSpec.ofChange fnArgsSpec)

/-- ITS FALSE NEIGHBOUR: 'it returns false'. Refute it at one input. -/
def fnArgsWrong : ChangeSpec := { name := "fnArgs", fn := fun _ => fun
  | [d] => { results := [.lit (.bool false)], args := [d] }
  | _ => none }
def FnArgsWrongFalsely : Prop := fnArgsRow.holds Try.pinned (OpenSpec.ofChange fnArgsWrong)

/-- 'laws.FnArgsBlanks': WHATEVER THE INPUT: true; the input reads as it did. -/
def fnArgsBlanksSpec : ChangeSpec := { name := "fnArgsBlanks", fn := fun _ => fun
  | [d1, d2, d3] => { results := [.lit (.bool true)], args := [d1, d2, d3] }
  | _ => none }
def fnArgsBlanksRow : OpenClaim := { program := "ytiklnckoimeimaa", sum := "d5bbb3f21714d355da19a030bfda07a24d6cded37cd4c007d359ac4ec821a238", func := "loop.example/pub-g03130/laws.FnArgsBlanks", spec := "fnArgsBlanks", inPlace := ["internal/abi.NoEscape"], apart := false }
def FnArgsBlanksSaid : Prop := fnArgsBlanksRow.holds Try.pinned (OpenSpec.ofChange fnArgsBlanksSpec)

/-- ITS FALSE NEIGHBOUR: 'it returns false'. Refute it at one input. -/
def fnArgsBlanksWrong : ChangeSpec := { name := "fnArgsBlanks", fn := fun _ => fun
  | [d1, d2, d3] => { results := [.lit (.bool false)], args := [d1, d2, d3] }
  | _ => none }
def FnArgsBlanksWrongFalsely : Prop := fnArgsBlanksRow.holds Try.pinned (OpenSpec.ofChange fnArgsBlanksWrong)

/-- 'laws.FnArgsDouble': WHATEVER THE INPUT: true; the input reads as it did. -/
def fnArgsDoubleSpec : ChangeSpec := { name := "fnArgsDouble", fn := fun _ => fun
  | [d] => { results := [.lit (.bool true)], args := [d] }
  | _ => none }
def fnArgsDoubleRow : OpenClaim := { program := "ytiklnckoimeimaa", sum := "d5bbb3f21714d355da19a030bfda07a24d6cded37cd4c007d359ac4ec821a238", func := "loop.example/pub-g03130/laws.FnArgsDouble", spec := "fnArgsDouble", inPlace := ["internal/abi.NoEscape"], apart := false }
def FnArgsDoubleSaid : Prop := fnArgsDoubleRow.holds Try.pinned (OpenSpec.ofChange fnArgsDoubleSpec)

/-- ITS FALSE NEIGHBOUR: 'it returns false'. Refute it at one input. -/
def fnArgsDoubleWrong : ChangeSpec := { name := "fnArgsDouble", fn := fun _ => fun
  | [d] => { results := [.lit (.bool false)], args := [d] }
  | _ => none }
def FnArgsDoubleWrongFalsely : Prop := fnArgsDoubleRow.holds Try.pinned (OpenSpec.ofChange fnArgsDoubleWrong)

/-- 'laws.FnArgsEscaped': WHATEVER THE INPUT: true; the input reads as it did. -/
def fnArgsEscapedSpec : ChangeSpec := { name := "fnArgsEscaped", fn := fun _ => fun
  | [d] => { results := [.lit (.bool true)], args := [d] }
  | _ => none }
def fnArgsEscapedRow : OpenClaim := { program := "ytiklnckoimeimaa", sum := "d5bbb3f21714d355da19a030bfda07a24d6cded37cd4c007d359ac4ec821a238", func := "loop.example/pub-g03130/laws.FnArgsEscaped", spec := "fnArgsEscaped", inPlace := ["internal/abi.NoEscape"], apart := false }
def FnArgsEscapedSaid : Prop := fnArgsEscapedRow.holds Try.pinned (OpenSpec.ofChange fnArgsEscapedSpec)

/-- ITS FALSE NEIGHBOUR: 'it returns false'. Refute it at one input. -/
def fnArgsEscapedWrong : ChangeSpec := { name := "fnArgsEscaped", fn := fun _ => fun
  | [d] => { results := [.lit (.bool false)], args := [d] }
  | _ => none }
def FnArgsEscapedWrongFalsely : Prop := fnArgsEscapedRow.holds Try.pinned (OpenSpec.ofChange fnArgsEscapedWrong)

/-- 'laws.FnArgsLines': WHATEVER THE INPUT: true; the input reads as it did. -/
def fnArgsLinesSpec : ChangeSpec := { name := "fnArgsLines", fn := fun _ => fun
  | [d1, d2, d3] => { results := [.lit (.bool true)], args := [d1, d2, d3] }
  | _ => none }
def fnArgsLinesRow : OpenClaim := { program := "ytiklnckoimeimaa", sum := "d5bbb3f21714d355da19a030bfda07a24d6cded37cd4c007d359ac4ec821a238", func := "loop.example/pub-g03130/laws.FnArgsLines", spec := "fnArgsLines", inPlace := ["internal/abi.NoEscape"], apart := false }
def FnArgsLinesSaid : Prop := fnArgsLinesRow.holds Try.pinned (OpenSpec.ofChange fnArgsLinesSpec)

/-- ITS FALSE NEIGHBOUR: 'it returns false'. Refute it at one input. -/
def fnArgsLinesWrong : ChangeSpec := { name := "fnArgsLines", fn := fun _ => fun
  | [d1, d2, d3] => { results := [.lit (.bool false)], args := [d1, d2, d3] }
  | _ => none }
def FnArgsLinesWrongFalsely : Prop := fnArgsLinesRow.holds Try.pinned (OpenSpec.ofChange fnArgsLinesWrong)

/-- 'laws.FnArgsSingle': WHATEVER THE INPUT: true; the input reads as it did. -/
def fnArgsSingleSpec : ChangeSpec := { name := "fnArgsSingle", fn := fun _ => fun
  | [d] => { results := [.lit (.bool true)], args := [d] }
  | _ => none }
def fnArgsSingleRow : OpenClaim := { program := "ytiklnckoimeimaa", sum := "d5bbb3f21714d355da19a030bfda07a24d6cded37cd4c007d359ac4ec821a238", func := "loop.example/pub-g03130/laws.FnArgsSingle", spec := "fnArgsSingle", inPlace := ["internal/abi.NoEscape"], apart := false }
def FnArgsSingleSaid : Prop := fnArgsSingleRow.holds Try.pinned (OpenSpec.ofChange fnArgsSingleSpec)

/-- ITS FALSE NEIGHBOUR: 'it returns false'. Refute it at one input. -/
def fnArgsSingleWrong : ChangeSpec := { name := "fnArgsSingle", fn := fun _ => fun
  | [d] => { results := [.lit (.bool false)], args := [d] }
  | _ => none }
def FnArgsSingleWrongFalsely : Prop := fnArgsSingleRow.holds Try.pinned (OpenSpec.ofChange fnArgsSingleWrong)

/- THE SECOND FORM. 'bulk': how many values and letters a reading holds, each counted each time it is reached (what is shared counts as often as it is met; a slice's spare places count too). A statement '..UptoSaid' is the law's where the arguments, and the package variables that the reading takes, are together of bulk at most 1048576: NARROWER than '..Said'. Prove '..Said' where nothing that the law and all that it calls make is longer than what came in: it says more and counts as full. Else prove '..UptoSaid'. A law counts once. -/
mutual
def uptoBulk {H : Type} : DataW H → Nat
  | .lit (.string bytes) => bytes.length + 1
  | .lit _ => 1
  | .nil => 1
  | .ptr d => uptoBulk d + 1
  | .slice elems spare => uptoBulkAll elems + uptoBulkAll spare + 1
  | .agg parts => uptoBulkAll parts + 1
  | .iface _ d => uptoBulk d + 1
  | .map entries => uptoBulkEntries entries + 1
  | .held _ => 1
def uptoBulkAll {H : Type} : List (DataW H) → Nat
  | [] => 0
  | d :: r => uptoBulk d + uptoBulkAll r
def uptoBulkEntries {H : Type} : List (Lit × DataW H) → Nat
  | [] => 0
  | x :: r => uptoBulkEntry x + uptoBulkEntries r
def uptoBulkEntry {H : Type} : Lit × DataW H → Nat
  | (.string bytes, d) => bytes.length + uptoBulk d + 1
  | (_, d) => uptoBulk d + 1
 end
def uptoSmall : (H : Type) → List (DataW H) → Bool := fun _ ds => decide (uptoBulkAll ds ≤ 1048576)
def OpenSpec.upto (s : _root_.Go.ChangeSpec) : _root_.Go.OpenSpec := { _root_.Go.OpenSpec.ofChange s with cond := some uptoSmall }

/-- 'laws.FnArgs', WHERE WHAT IT READS IS OF BULK AT MOST 1048576: true; the input reads as it did. -/
def fnArgsUptoRow : OpenClaim := { program := "ytiklnckoimeimaa", sum := "d5bbb3f21714d355da19a030bfda07a24d6cded37cd4c007d359ac4ec821a238", func := "loop.example/pub-g03130/laws.FnArgs", spec := "fnArgs", inPlace := ["internal/abi.NoEscape"], apart := false, narrowed := true }
def FnArgsUptoSaid : Prop := fnArgsUptoRow.holds Try.pinned (OpenSpec.upto fnArgsSpec)

/-- 'laws.FnArgsBlanks', WHERE WHAT IT READS IS OF BULK AT MOST 1048576: true; the input reads as it did. -/
def fnArgsBlanksUptoRow : OpenClaim := { program := "ytiklnckoimeimaa", sum := "d5bbb3f21714d355da19a030bfda07a24d6cded37cd4c007d359ac4ec821a238", func := "loop.example/pub-g03130/laws.FnArgsBlanks", spec := "fnArgsBlanks", inPlace := ["internal/abi.NoEscape"], apart := false, narrowed := true }
def FnArgsBlanksUptoSaid : Prop := fnArgsBlanksUptoRow.holds Try.pinned (OpenSpec.upto fnArgsBlanksSpec)

/-- 'laws.FnArgsDouble', WHERE WHAT IT READS IS OF BULK AT MOST 1048576: true; the input reads as it did. -/
def fnArgsDoubleUptoRow : OpenClaim := { program := "ytiklnckoimeimaa", sum := "d5bbb3f21714d355da19a030bfda07a24d6cded37cd4c007d359ac4ec821a238", func := "loop.example/pub-g03130/laws.FnArgsDouble", spec := "fnArgsDouble", inPlace := ["internal/abi.NoEscape"], apart := false, narrowed := true }
def FnArgsDoubleUptoSaid : Prop := fnArgsDoubleUptoRow.holds Try.pinned (OpenSpec.upto fnArgsDoubleSpec)

/-- 'laws.FnArgsEscaped', WHERE WHAT IT READS IS OF BULK AT MOST 1048576: true; the input reads as it did. -/
def fnArgsEscapedUptoRow : OpenClaim := { program := "ytiklnckoimeimaa", sum := "d5bbb3f21714d355da19a030bfda07a24d6cded37cd4c007d359ac4ec821a238", func := "loop.example/pub-g03130/laws.FnArgsEscaped", spec := "fnArgsEscaped", inPlace := ["internal/abi.NoEscape"], apart := false, narrowed := true }
def FnArgsEscapedUptoSaid : Prop := fnArgsEscapedUptoRow.holds Try.pinned (OpenSpec.upto fnArgsEscapedSpec)

/-- 'laws.FnArgsLines', WHERE WHAT IT READS IS OF BULK AT MOST 1048576: true; the input reads as it did. -/
def fnArgsLinesUptoRow : OpenClaim := { program := "ytiklnckoimeimaa", sum := "d5bbb3f21714d355da19a030bfda07a24d6cded37cd4c007d359ac4ec821a238", func := "loop.example/pub-g03130/laws.FnArgsLines", spec := "fnArgsLines", inPlace := ["internal/abi.NoEscape"], apart := false, narrowed := true }
def FnArgsLinesUptoSaid : Prop := fnArgsLinesUptoRow.holds Try.pinned (OpenSpec.upto fnArgsLinesSpec)

/-- 'laws.FnArgsSingle', WHERE WHAT IT READS IS OF BULK AT MOST 1048576: true; the input reads as it did. -/
def fnArgsSingleUptoRow : OpenClaim := { program := "ytiklnckoimeimaa", sum := "d5bbb3f21714d355da19a030bfda07a24d6cded37cd4c007d359ac4ec821a238", func := "loop.example/pub-g03130/laws.FnArgsSingle", spec := "fnArgsSingle", inPlace := ["internal/abi.NoEscape"], apart := false, narrowed := true }
def FnArgsSingleUptoSaid : Prop := fnArgsSingleUptoRow.holds Try.pinned (OpenSpec.upto fnArgsSingleSpec)

end Rows
end Go.Proofs.Ytiklnckoimeimaa
