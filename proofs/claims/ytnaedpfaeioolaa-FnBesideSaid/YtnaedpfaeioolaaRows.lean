/-
  NARROWER THAN 'FOR EVERY INPUT', by the rows' own cells (each row's printed sentence says how): FnAliases: loops · FnBeside: loops · FnCycles: loops · FnFirst: loops · FnInvalid: loops · FnMarked: loops · FnPointers: loops · FnStructs: loops · FnValid: loops.
  DERIVED. THE GIVEN ROWS OF THIS SEAT. 11 by the template 'for every input the law returns true; each argument reads behind the call as it read before'; 0 by the template 'total and deterministic' (their statements: YtnaedpfaeioolaaTotals.lean).
  GIVEN WITH THE SEED: the statements are not yours to turn. If you find one false, say at which input.
  Laid BY PROGRAM, IN A SANDBOX (cutbox-rows.mjs): the forced cells as the released guide's own fill.sh prints them over the translation fa248bfe44792cb3… (all of the seat's roots in one cut). By AI agents, Wed Nov 11 2026. No macro, syntax, notation, axiom, sorry.
-/
import Derived.Test.YtnaedpfaeioolaaChecked
import GoSem.Claim
import GoSem.ClaimJoined
import GoSem.ClaimMapViews
import Derived.JoinedTies
import Derived.KernelRfl
namespace Go.Proofs.Ytnaedpfaeioolaa
/- THE CELL 'sum', in the pinned program and in every row, IS THE sha256 OF THE DUMP (.gsa) THAT YtnaedpfaeioolaaProg.lean LOADS. Nothing in Lean hashes anything: it is a label: what it is worth is what the hold of that sum in a sandbox is worth. -/
noncomputable def Try.pinned : Pinned := { name := "ytnaedpfaeioolaa", sum := "fa248bfe44792cb356282724c969913b02b1ac8d73519e364d1ea1826051d737", checked := Try.checked }
namespace Rows
def none {H : Type} : Left H := { results := [], args := [] }

/-- 'laws.FnDirect': WHATEVER THE INPUT: true; the input reads as it did. -/
def fnDirectSpec : ChangeSpec := { name := "fnDirect", fn := fun _ => fun
  | [d] => { results := [.lit (.bool true)], args := [d] }
  | _ => none }
def fnDirectRow : OpenClaim := { program := "ytnaedpfaeioolaa", sum := "fa248bfe44792cb356282724c969913b02b1ac8d73519e364d1ea1826051d737", func := "ouroboros/laws.FnDirect", spec := "fnDirect", unfollowed := true, recurses := true, apart := false }
def FnDirectSaid : Prop := fnDirectRow.holds Try.pinned (OpenSpec.ofChange fnDirectSpec)

/-- ITS FALSE NEIGHBOUR: 'it returns false'. Refute it at one input. -/
def fnDirectWrong : ChangeSpec := { name := "fnDirect", fn := fun _ => fun
  | [d] => { results := [.lit (.bool false)], args := [d] }
  | _ => none }
def FnDirectWrongFalsely : Prop := fnDirectRow.holds Try.pinned (OpenSpec.ofChange fnDirectWrong)

/-- 'laws.FnDirectMarked': WHATEVER THE INPUT: true; the input reads as it did. -/
def fnDirectMarkedSpec : ChangeSpec := { name := "fnDirectMarked", fn := fun _ => fun
  | [d] => { results := [.lit (.bool true)], args := [d] }
  | _ => none }
def fnDirectMarkedRow : OpenClaim := { program := "ytnaedpfaeioolaa", sum := "fa248bfe44792cb356282724c969913b02b1ac8d73519e364d1ea1826051d737", func := "ouroboros/laws.FnDirectMarked", spec := "fnDirectMarked", unfollowed := true, recurses := true, apart := false }
def FnDirectMarkedSaid : Prop := fnDirectMarkedRow.holds Try.pinned (OpenSpec.ofChange fnDirectMarkedSpec)

/-- ITS FALSE NEIGHBOUR: 'it returns false'. Refute it at one input. -/
def fnDirectMarkedWrong : ChangeSpec := { name := "fnDirectMarked", fn := fun _ => fun
  | [d] => { results := [.lit (.bool false)], args := [d] }
  | _ => none }
def FnDirectMarkedWrongFalsely : Prop := fnDirectMarkedRow.holds Try.pinned (OpenSpec.ofChange fnDirectMarkedWrong)

/-- 'laws.FnAliases': WHATEVER THE INPUT: true; the input reads as it did. -/
def fnAliasesSpec : ChangeSpec := { name := "fnAliases", fn := fun _ => fun
  | [d] => { results := [.lit (.bool true)], args := [d] }
  | _ => none }
def fnAliasesRow : OpenClaim := { program := "ytnaedpfaeioolaa", sum := "fa248bfe44792cb356282724c969913b02b1ac8d73519e364d1ea1826051d737", func := "ouroboros/laws.FnAliases", spec := "fnAliases", unfollowed := true, recurses := true, loops := true, apart := false }
def FnAliasesSaid : Prop := fnAliasesRow.holds Try.pinned (OpenSpec.ofChange fnAliasesSpec)

/-- ITS FALSE NEIGHBOUR: 'it returns false'. Refute it at one input. -/
def fnAliasesWrong : ChangeSpec := { name := "fnAliases", fn := fun _ => fun
  | [d] => { results := [.lit (.bool false)], args := [d] }
  | _ => none }
def FnAliasesWrongFalsely : Prop := fnAliasesRow.holds Try.pinned (OpenSpec.ofChange fnAliasesWrong)

/-- 'laws.FnBeside': WHATEVER THE INPUT: true; the input reads as it did. -/
def fnBesideSpec : ChangeSpec := { name := "fnBeside", fn := fun _ => fun
  | [d1, d2] => { results := [.lit (.bool true)], args := [d1, d2] }
  | _ => none }
def fnBesideRow : OpenClaim := { program := "ytnaedpfaeioolaa", sum := "fa248bfe44792cb356282724c969913b02b1ac8d73519e364d1ea1826051d737", func := "ouroboros/laws.FnBeside", spec := "fnBeside", unfollowed := true, recurses := true, loops := true, apart := false }
def FnBesideSaid : Prop := fnBesideRow.holds Try.pinned (OpenSpec.ofChange fnBesideSpec)

/-- ITS FALSE NEIGHBOUR: 'it returns false'. Refute it at one input. -/
def fnBesideWrong : ChangeSpec := { name := "fnBeside", fn := fun _ => fun
  | [d1, d2] => { results := [.lit (.bool false)], args := [d1, d2] }
  | _ => none }
def FnBesideWrongFalsely : Prop := fnBesideRow.holds Try.pinned (OpenSpec.ofChange fnBesideWrong)

/-- 'laws.FnCycles': WHATEVER THE INPUT: true; the input reads as it did. -/
def fnCyclesSpec : ChangeSpec := { name := "fnCycles", fn := fun _ => fun
  | [d] => { results := [.lit (.bool true)], args := [d] }
  | _ => none }
def fnCyclesRow : OpenClaim := { program := "ytnaedpfaeioolaa", sum := "fa248bfe44792cb356282724c969913b02b1ac8d73519e364d1ea1826051d737", func := "ouroboros/laws.FnCycles", spec := "fnCycles", unfollowed := true, recurses := true, loops := true, apart := false }
def FnCyclesSaid : Prop := fnCyclesRow.holds Try.pinned (OpenSpec.ofChange fnCyclesSpec)

/-- ITS FALSE NEIGHBOUR: 'it returns false'. Refute it at one input. -/
def fnCyclesWrong : ChangeSpec := { name := "fnCycles", fn := fun _ => fun
  | [d] => { results := [.lit (.bool false)], args := [d] }
  | _ => none }
def FnCyclesWrongFalsely : Prop := fnCyclesRow.holds Try.pinned (OpenSpec.ofChange fnCyclesWrong)

/-- 'laws.FnFirst': WHATEVER THE INPUT: true; the input reads as it did. -/
def fnFirstSpec : ChangeSpec := { name := "fnFirst", fn := fun _ => fun
  | [d] => { results := [.lit (.bool true)], args := [d] }
  | _ => none }
def fnFirstRow : OpenClaim := { program := "ytnaedpfaeioolaa", sum := "fa248bfe44792cb356282724c969913b02b1ac8d73519e364d1ea1826051d737", func := "ouroboros/laws.FnFirst", spec := "fnFirst", unfollowed := true, recurses := true, loops := true, apart := false }
def FnFirstSaid : Prop := fnFirstRow.holds Try.pinned (OpenSpec.ofChange fnFirstSpec)

/-- ITS FALSE NEIGHBOUR: 'it returns false'. Refute it at one input. -/
def fnFirstWrong : ChangeSpec := { name := "fnFirst", fn := fun _ => fun
  | [d] => { results := [.lit (.bool false)], args := [d] }
  | _ => none }
def FnFirstWrongFalsely : Prop := fnFirstRow.holds Try.pinned (OpenSpec.ofChange fnFirstWrong)

/-- 'laws.FnInvalid': WHATEVER THE INPUT: true; the input reads as it did. -/
def fnInvalidSpec : ChangeSpec := { name := "fnInvalid", fn := fun _ => fun
  | [d] => { results := [.lit (.bool true)], args := [d] }
  | _ => none }
def fnInvalidRow : OpenClaim := { program := "ytnaedpfaeioolaa", sum := "fa248bfe44792cb356282724c969913b02b1ac8d73519e364d1ea1826051d737", func := "ouroboros/laws.FnInvalid", spec := "fnInvalid", unfollowed := true, recurses := true, loops := true, apart := false }
def FnInvalidSaid : Prop := fnInvalidRow.holds Try.pinned (OpenSpec.ofChange fnInvalidSpec)

/-- ITS FALSE NEIGHBOUR: 'it returns false'. Refute it at one input. -/
def fnInvalidWrong : ChangeSpec := { name := "fnInvalid", fn := fun _ => fun
  | [d] => { results := [.lit (.bool false)], args := [d] }
  | _ => none }
def FnInvalidWrongFalsely : Prop := fnInvalidRow.holds Try.pinned (OpenSpec.ofChange fnInvalidWrong)

/-- 'laws.FnMarked': WHATEVER THE INPUT: true; the input reads as it did. -/
def fnMarkedSpec : ChangeSpec := { name := "fnMarked", fn := fun _ => fun
  | [d] => { results := [.lit (.bool true)], args := [d] }
  | _ => none }
def fnMarkedRow : OpenClaim := { program := "ytnaedpfaeioolaa", sum := "fa248bfe44792cb356282724c969913b02b1ac8d73519e364d1ea1826051d737", func := "ouroboros/laws.FnMarked", spec := "fnMarked", unfollowed := true, recurses := true, loops := true, apart := false }
def FnMarkedSaid : Prop := fnMarkedRow.holds Try.pinned (OpenSpec.ofChange fnMarkedSpec)

/-- ITS FALSE NEIGHBOUR: 'it returns false'. Refute it at one input. -/
def fnMarkedWrong : ChangeSpec := { name := "fnMarked", fn := fun _ => fun
  | [d] => { results := [.lit (.bool false)], args := [d] }
  | _ => none }
def FnMarkedWrongFalsely : Prop := fnMarkedRow.holds Try.pinned (OpenSpec.ofChange fnMarkedWrong)

/-- 'laws.FnPointers': WHATEVER THE INPUT: true; the input reads as it did. -/
def fnPointersSpec : ChangeSpec := { name := "fnPointers", fn := fun _ => fun
  | [d] => { results := [.lit (.bool true)], args := [d] }
  | _ => none }
def fnPointersRow : OpenClaim := { program := "ytnaedpfaeioolaa", sum := "fa248bfe44792cb356282724c969913b02b1ac8d73519e364d1ea1826051d737", func := "ouroboros/laws.FnPointers", spec := "fnPointers", unfollowed := true, recurses := true, loops := true, apart := false }
def FnPointersSaid : Prop := fnPointersRow.holds Try.pinned (OpenSpec.ofChange fnPointersSpec)

/-- ITS FALSE NEIGHBOUR: 'it returns false'. Refute it at one input. -/
def fnPointersWrong : ChangeSpec := { name := "fnPointers", fn := fun _ => fun
  | [d] => { results := [.lit (.bool false)], args := [d] }
  | _ => none }
def FnPointersWrongFalsely : Prop := fnPointersRow.holds Try.pinned (OpenSpec.ofChange fnPointersWrong)

/-- 'laws.FnStructs': WHATEVER THE INPUT: true; the input reads as it did. -/
def fnStructsSpec : ChangeSpec := { name := "fnStructs", fn := fun _ => fun
  | [d] => { results := [.lit (.bool true)], args := [d] }
  | _ => none }
def fnStructsRow : OpenClaim := { program := "ytnaedpfaeioolaa", sum := "fa248bfe44792cb356282724c969913b02b1ac8d73519e364d1ea1826051d737", func := "ouroboros/laws.FnStructs", spec := "fnStructs", unfollowed := true, recurses := true, loops := true, apart := false }
def FnStructsSaid : Prop := fnStructsRow.holds Try.pinned (OpenSpec.ofChange fnStructsSpec)

/-- ITS FALSE NEIGHBOUR: 'it returns false'. Refute it at one input. -/
def fnStructsWrong : ChangeSpec := { name := "fnStructs", fn := fun _ => fun
  | [d] => { results := [.lit (.bool false)], args := [d] }
  | _ => none }
def FnStructsWrongFalsely : Prop := fnStructsRow.holds Try.pinned (OpenSpec.ofChange fnStructsWrong)

/-- 'laws.FnValid': WHATEVER THE INPUT: true; the input reads as it did. -/
def fnValidSpec : ChangeSpec := { name := "fnValid", fn := fun _ => fun
  | [d] => { results := [.lit (.bool true)], args := [d] }
  | _ => none }
def fnValidRow : OpenClaim := { program := "ytnaedpfaeioolaa", sum := "fa248bfe44792cb356282724c969913b02b1ac8d73519e364d1ea1826051d737", func := "ouroboros/laws.FnValid", spec := "fnValid", unfollowed := true, recurses := true, loops := true, apart := false }
def FnValidSaid : Prop := fnValidRow.holds Try.pinned (OpenSpec.ofChange fnValidSpec)

/-- ITS FALSE NEIGHBOUR: 'it returns false'. Refute it at one input. -/
def fnValidWrong : ChangeSpec := { name := "fnValid", fn := fun _ => fun
  | [d] => { results := [.lit (.bool false)], args := [d] }
  | _ => none }
def FnValidWrongFalsely : Prop := fnValidRow.holds Try.pinned (OpenSpec.ofChange fnValidWrong)

/- THE SECOND FORM. 'bulk': how many values and letters a reading holds, each counted each time it is reached (what is shared counts as often as it is met; a slice's spare places count too). A statement '..UptoSaid' is the law's where the arguments, and the package variables that the reading takes, are together of bulk at most 1048576: NARROWER than '..Said'. Prove '..Said' where nothing that the law and all that it calls make is longer than what came in: it says more and counts as full. Else prove '..UptoSaid'. A law counts once. -/
mutual
def uptoBulk {H : Type} : DataW H → Nat
  | .lit (.string bytes) => bytes.length + 1
  | .lit _ => 1
  | .nil => 1
  | .ptr d => uptoBulk d + 1
  | .slice elems spare => uptoBulkAll elems + uptoBulkAll spare + 1
  | .agg parts => uptoBulkAll parts + 1
  | .iface _ d => uptoBulk d + 1
  | .map entries => uptoBulkEntries entries + 1
  | .held _ => 1
def uptoBulkAll {H : Type} : List (DataW H) → Nat
  | [] => 0
  | d :: r => uptoBulk d + uptoBulkAll r
def uptoBulkEntries {H : Type} : List (Lit × DataW H) → Nat
  | [] => 0
  | x :: r => uptoBulkEntry x + uptoBulkEntries r
def uptoBulkEntry {H : Type} : Lit × DataW H → Nat
  | (.string bytes, d) => bytes.length + uptoBulk d + 1
  | (_, d) => uptoBulk d + 1
 end
def uptoSmall : (H : Type) → List (DataW H) → Bool := fun _ ds => decide (uptoBulkAll ds ≤ 1048576)
def OpenSpec.upto (s : _root_.Go.ChangeSpec) : _root_.Go.OpenSpec := { _root_.Go.OpenSpec.ofChange s with cond := some uptoSmall }

/-- 'laws.FnDirect', WHERE WHAT IT READS IS OF BULK AT MOST 1048576: true; the input reads as it did. -/
def fnDirectUptoRow : OpenClaim := { program := "ytnaedpfaeioolaa", sum := "fa248bfe44792cb356282724c969913b02b1ac8d73519e364d1ea1826051d737", func := "ouroboros/laws.FnDirect", spec := "fnDirect", unfollowed := true, recurses := true, apart := false, narrowed := true }
def FnDirectUptoSaid : Prop := fnDirectUptoRow.holds Try.pinned (OpenSpec.upto fnDirectSpec)

/-- 'laws.FnDirectMarked', WHERE WHAT IT READS IS OF BULK AT MOST 1048576: true; the input reads as it did. -/
def fnDirectMarkedUptoRow : OpenClaim := { program := "ytnaedpfaeioolaa", sum := "fa248bfe44792cb356282724c969913b02b1ac8d73519e364d1ea1826051d737", func := "ouroboros/laws.FnDirectMarked", spec := "fnDirectMarked", unfollowed := true, recurses := true, apart := false, narrowed := true }
def FnDirectMarkedUptoSaid : Prop := fnDirectMarkedUptoRow.holds Try.pinned (OpenSpec.upto fnDirectMarkedSpec)

/-- 'laws.FnAliases', WHERE WHAT IT READS IS OF BULK AT MOST 1048576: true; the input reads as it did. -/
def fnAliasesUptoRow : OpenClaim := { program := "ytnaedpfaeioolaa", sum := "fa248bfe44792cb356282724c969913b02b1ac8d73519e364d1ea1826051d737", func := "ouroboros/laws.FnAliases", spec := "fnAliases", unfollowed := true, recurses := true, loops := true, apart := false, narrowed := true }
def FnAliasesUptoSaid : Prop := fnAliasesUptoRow.holds Try.pinned (OpenSpec.upto fnAliasesSpec)

/-- 'laws.FnBeside', WHERE WHAT IT READS IS OF BULK AT MOST 1048576: true; the input reads as it did. -/
def fnBesideUptoRow : OpenClaim := { program := "ytnaedpfaeioolaa", sum := "fa248bfe44792cb356282724c969913b02b1ac8d73519e364d1ea1826051d737", func := "ouroboros/laws.FnBeside", spec := "fnBeside", unfollowed := true, recurses := true, loops := true, apart := false, narrowed := true }
def FnBesideUptoSaid : Prop := fnBesideUptoRow.holds Try.pinned (OpenSpec.upto fnBesideSpec)

/-- 'laws.FnCycles', WHERE WHAT IT READS IS OF BULK AT MOST 1048576: true; the input reads as it did. -/
def fnCyclesUptoRow : OpenClaim := { program := "ytnaedpfaeioolaa", sum := "fa248bfe44792cb356282724c969913b02b1ac8d73519e364d1ea1826051d737", func := "ouroboros/laws.FnCycles", spec := "fnCycles", unfollowed := true, recurses := true, loops := true, apart := false, narrowed := true }
def FnCyclesUptoSaid : Prop := fnCyclesUptoRow.holds Try.pinned (OpenSpec.upto fnCyclesSpec)

/-- 'laws.FnFirst', WHERE WHAT IT READS IS OF BULK AT MOST 1048576: true; the input reads as it did. -/
def fnFirstUptoRow : OpenClaim := { program := "ytnaedpfaeioolaa", sum := "fa248bfe44792cb356282724c969913b02b1ac8d73519e364d1ea1826051d737", func := "ouroboros/laws.FnFirst", spec := "fnFirst", unfollowed := true, recurses := true, loops := true, apart := false, narrowed := true }
def FnFirstUptoSaid : Prop := fnFirstUptoRow.holds Try.pinned (OpenSpec.upto fnFirstSpec)

/-- 'laws.FnInvalid', WHERE WHAT IT READS IS OF BULK AT MOST 1048576: true; the input reads as it did. -/
def fnInvalidUptoRow : OpenClaim := { program := "ytnaedpfaeioolaa", sum := "fa248bfe44792cb356282724c969913b02b1ac8d73519e364d1ea1826051d737", func := "ouroboros/laws.FnInvalid", spec := "fnInvalid", unfollowed := true, recurses := true, loops := true, apart := false, narrowed := true }
def FnInvalidUptoSaid : Prop := fnInvalidUptoRow.holds Try.pinned (OpenSpec.upto fnInvalidSpec)

/-- 'laws.FnMarked', WHERE WHAT IT READS IS OF BULK AT MOST 1048576: true; the input reads as it did. -/
def fnMarkedUptoRow : OpenClaim := { program := "ytnaedpfaeioolaa", sum := "fa248bfe44792cb356282724c969913b02b1ac8d73519e364d1ea1826051d737", func := "ouroboros/laws.FnMarked", spec := "fnMarked", unfollowed := true, recurses := true, loops := true, apart := false, narrowed := true }
def FnMarkedUptoSaid : Prop := fnMarkedUptoRow.holds Try.pinned (OpenSpec.upto fnMarkedSpec)

/-- 'laws.FnPointers', WHERE WHAT IT READS IS OF BULK AT MOST 1048576: true; the input reads as it did. -/
def fnPointersUptoRow : OpenClaim := { program := "ytnaedpfaeioolaa", sum := "fa248bfe44792cb356282724c969913b02b1ac8d73519e364d1ea1826051d737", func := "ouroboros/laws.FnPointers", spec := "fnPointers", unfollowed := true, recurses := true, loops := true, apart := false, narrowed := true }
def FnPointersUptoSaid : Prop := fnPointersUptoRow.holds Try.pinned (OpenSpec.upto fnPointersSpec)

/-- 'laws.FnStructs', WHERE WHAT IT READS IS OF BULK AT MOST 1048576: true; the input reads as it did. -/
def fnStructsUptoRow : OpenClaim := { program := "ytnaedpfaeioolaa", sum := "fa248bfe44792cb356282724c969913b02b1ac8d73519e364d1ea1826051d737", func := "ouroboros/laws.FnStructs", spec := "fnStructs", unfollowed := true, recurses := true, loops := true, apart := false, narrowed := true }
def FnStructsUptoSaid : Prop := fnStructsUptoRow.holds Try.pinned (OpenSpec.upto fnStructsSpec)

/-- 'laws.FnValid', WHERE WHAT IT READS IS OF BULK AT MOST 1048576: true; the input reads as it did. -/
def fnValidUptoRow : OpenClaim := { program := "ytnaedpfaeioolaa", sum := "fa248bfe44792cb356282724c969913b02b1ac8d73519e364d1ea1826051d737", func := "ouroboros/laws.FnValid", spec := "fnValid", unfollowed := true, recurses := true, loops := true, apart := false, narrowed := true }
def FnValidUptoSaid : Prop := fnValidUptoRow.holds Try.pinned (OpenSpec.upto fnValidSpec)

end Rows
end Go.Proofs.Ytnaedpfaeioolaa
