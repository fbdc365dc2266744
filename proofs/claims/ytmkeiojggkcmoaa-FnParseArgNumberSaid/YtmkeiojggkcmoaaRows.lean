/-
  No cell of these rows narrows 'for every input' (looked for: loops, veiled, ifaces, maps, wideKeys, modest, calm, conditions, laid).
  DERIVED. THE GIVEN ROWS OF THIS SEAT. 3 by the template 'for every input the law returns true; each argument reads behind the call as it read before'; 0 by the template 'total and deterministic' (their statements: YtmkeiojggkcmoaaTotals.lean).
  GIVEN WITH THE SEED: the statements are not yours to turn. If you find one false, say at which input.
  Laid BY PROGRAM, IN A SANDBOX (cutbox-rows.mjs): the forced cells as the released guide's own fill.sh prints them over the translation 632b941d614af11e… (all of the seat's roots in one cut). By AI agents, Wed Nov 11 2026. No macro, syntax, notation, axiom, sorry.
-/
import Derived.Test.YtmkeiojggkcmoaaChecked
import GoSem.Claim
import GoSem.ClaimJoined
import GoSem.ClaimMapViews
import Derived.JoinedTies
import Derived.KernelRfl
namespace Go.Proofs.Ytmkeiojggkcmoaa
/- THE CELL 'sum', in the pinned program and in every row, IS THE sha256 OF THE DUMP (.gsa) THAT YtmkeiojggkcmoaaProg.lean LOADS. Nothing in Lean hashes anything: it is a label: what it is worth is what the hold of that sum in a sandbox is worth. -/
noncomputable def Try.pinned : Pinned := { name := "ytmkeiojggkcmoaa", sum := "632b941d614af11e416d434c4096467e5e7b3ca55db2e0a5fec135c87851e155", checked := Try.checked }
namespace Rows
def none {H : Type} : Left H := { results := [], args := [] }

/-- 'laws.FnTooLarge': WHATEVER THE INPUT: true; the input reads as it did. -/
def fnTooLargeSpec : ChangeSpec := { name := "fnTooLarge", fn := fun _ => fun
  | [d] => { results := [.lit (.bool true)], args := [d] }
  | _ => none }
def fnTooLargeRow : OpenClaim := { program := "ytmkeiojggkcmoaa", sum := "632b941d614af11e416d434c4096467e5e7b3ca55db2e0a5fec135c87851e155", func := "formatsandarguments/laws.FnTooLarge", spec := "fnTooLarge", apart := false }
def FnTooLargeSaid : Prop := fnTooLargeRow.holds Try.pinned (OpenSpec.ofChange fnTooLargeSpec)

/-- ITS FALSE NEIGHBOUR: 'it returns false'. Refute it at one input. -/
def fnTooLargeWrong : ChangeSpec := { name := "fnTooLarge", fn := fun _ => fun
  | [d] => { results := [.lit (.bool false)], args := [d] }
  | _ => none }
def FnTooLargeWrongFalsely : Prop := fnTooLargeRow.holds Try.pinned (OpenSpec.ofChange fnTooLargeWrong)

/-- 'laws.FnParseNum': WHATEVER THE INPUT: true; the input reads as it did. -/
def fnParseNumSpec : ChangeSpec := { name := "fnParseNum", fn := fun _ => fun
  | [d1, d2, d3] => { results := [.lit (.bool true)], args := [d1, d2, d3] }
  | _ => none }
def fnParseNumRow : OpenClaim := { program := "ytmkeiojggkcmoaa", sum := "632b941d614af11e416d434c4096467e5e7b3ca55db2e0a5fec135c87851e155", func := "formatsandarguments/laws.FnParseNum", spec := "fnParseNum", apart := false }
def FnParseNumSaid : Prop := fnParseNumRow.holds Try.pinned (OpenSpec.ofChange fnParseNumSpec)

/-- ITS FALSE NEIGHBOUR: 'it returns false'. Refute it at one input. -/
def fnParseNumWrong : ChangeSpec := { name := "fnParseNum", fn := fun _ => fun
  | [d1, d2, d3] => { results := [.lit (.bool false)], args := [d1, d2, d3] }
  | _ => none }
def FnParseNumWrongFalsely : Prop := fnParseNumRow.holds Try.pinned (OpenSpec.ofChange fnParseNumWrong)

/-- 'laws.FnParseArgNumber': WHATEVER THE INPUT: true; the input reads as it did. -/
def fnParseArgNumberSpec : ChangeSpec := { name := "fnParseArgNumber", fn := fun _ => fun
  | [d1, d2] => { results := [.lit (.bool true)], args := [d1, d2] }
  | _ => none }
def fnParseArgNumberRow : OpenClaim := { program := "ytmkeiojggkcmoaa", sum := "632b941d614af11e416d434c4096467e5e7b3ca55db2e0a5fec135c87851e155", func := "formatsandarguments/laws.FnParseArgNumber", spec := "fnParseArgNumber", apart := false }
def FnParseArgNumberSaid : Prop := fnParseArgNumberRow.holds Try.pinned (OpenSpec.ofChange fnParseArgNumberSpec)

/-- ITS FALSE NEIGHBOUR: 'it returns false'. Refute it at one input. -/
def fnParseArgNumberWrong : ChangeSpec := { name := "fnParseArgNumber", fn := fun _ => fun
  | [d1, d2] => { results := [.lit (.bool false)], args := [d1, d2] }
  | _ => none }
def FnParseArgNumberWrongFalsely : Prop := fnParseArgNumberRow.holds Try.pinned (OpenSpec.ofChange fnParseArgNumberWrong)

/- THE SECOND FORM. 'bulk': how many values and letters a reading holds, each counted each time it is reached (what is shared counts as often as it is met; a slice's spare places count too). A statement '..UptoSaid' is the law's where the arguments, and the package variables that the reading takes, are together of bulk at most 1048576: NARROWER than '..Said'. Prove '..Said' where nothing that the law and all that it calls make is longer than what came in: it says more and counts as full. Else prove '..UptoSaid'. A law counts once. -/
mutual
def uptoBulk {H : Type} : DataW H → Nat
  | .lit (.string bytes) => bytes.length + 1
  | .lit _ => 1
  | .nil => 1
  | .ptr d => uptoBulk d + 1
  | .slice elems spare => uptoBulkAll elems + uptoBulkAll spare + 1
  | .agg parts => uptoBulkAll parts + 1
  | .iface _ d => uptoBulk d + 1
  | .map entries => uptoBulkEntries entries + 1
  | .held _ => 1
def uptoBulkAll {H : Type} : List (DataW H) → Nat
  | [] => 0
  | d :: r => uptoBulk d + uptoBulkAll r
def uptoBulkEntries {H : Type} : List (Lit × DataW H) → Nat
  | [] => 0
  | x :: r => uptoBulkEntry x + uptoBulkEntries r
def uptoBulkEntry {H : Type} : Lit × DataW H → Nat
  | (.string bytes, d) => bytes.length + uptoBulk d + 1
  | (_, d) => uptoBulk d + 1
 end
def uptoSmall : (H : Type) → List (DataW H) → Bool := fun _ ds => decide (uptoBulkAll ds ≤ 1048576)
def OpenSpec.upto (s : _root_.Go.ChangeSpec) : _root_.Go.OpenSpec := { _root_.Go.OpenSpec.ofChange s with cond := some uptoSmall }

/-- 'laws.FnTooLarge', WHERE WHAT IT READS IS OF BULK AT MOST 1048576: true; the input reads as it did. -/
def fnTooLargeUptoRow : OpenClaim := { program := "ytmkeiojggkcmoaa", sum := "632b941d614af11e416d434c4096467e5e7b3ca55db2e0a5fec135c87851e155", func := "formatsandarguments/laws.FnTooLarge", spec := "fnTooLarge", apart := false, narrowed := true }
def FnTooLargeUptoSaid : Prop := fnTooLargeUptoRow.holds Try.pinned (OpenSpec.upto fnTooLargeSpec)

/-- 'laws.FnParseNum', WHERE WHAT IT READS IS OF BULK AT MOST 1048576: true; the input reads as it did. -/
def fnParseNumUptoRow : OpenClaim := { program := "ytmkeiojggkcmoaa", sum := "632b941d614af11e416d434c4096467e5e7b3ca55db2e0a5fec135c87851e155", func := "formatsandarguments/laws.FnParseNum", spec := "fnParseNum", apart := false, narrowed := true }
def FnParseNumUptoSaid : Prop := fnParseNumUptoRow.holds Try.pinned (OpenSpec.upto fnParseNumSpec)

/-- 'laws.FnParseArgNumber', WHERE WHAT IT READS IS OF BULK AT MOST 1048576: true; the input reads as it did. -/
def fnParseArgNumberUptoRow : OpenClaim := { program := "ytmkeiojggkcmoaa", sum := "632b941d614af11e416d434c4096467e5e7b3ca55db2e0a5fec135c87851e155", func := "formatsandarguments/laws.FnParseArgNumber", spec := "fnParseArgNumber", apart := false, narrowed := true }
def FnParseArgNumberUptoSaid : Prop := fnParseArgNumberUptoRow.holds Try.pinned (OpenSpec.upto fnParseArgNumberSpec)

end Rows
end Go.Proofs.Ytmkeiojggkcmoaa
