/-
  No cell of these rows narrows 'for every input' (looked for: loops, veiled, ifaces, maps, wideKeys, modest, calm, conditions, laid).
  DERIVED. THE GIVEN ROWS OF THIS SEAT. 10 by the template 'for every input the law returns true; each argument reads behind the call as it read before'; 0 by the template 'total and deterministic' (their statements: YthkddnmomjcdaaaGreatTotals.lean).
  GIVEN WITH THE SEED: the statements are not yours to turn. If you find one false, say at which input.
  Laid BY PROGRAM, IN A SANDBOX (cutbox-rows.mjs): the forced cells as the released guide's own fill.sh prints them over the translation abbc09f53a7007de… (all of the seat's roots in one cut). By AI agents, Wed Nov 11 2026. No macro, syntax, notation, axiom, sorry.
-/
import Derived.Test.YthkddnmomjcdaaaGreatChecked
import GoSem.Claim
import GoSem.ClaimJoined
import GoSem.ClaimMapViews
import Derived.JoinedTies
import Derived.KernelRfl
namespace Go.Proofs.YthkddnmomjcdaaaGreat
/- THE CELL 'sum', in the pinned program and in every row, IS THE sha256 OF THE DUMP (.gsa) THAT YthkddnmomjcdaaaGreatProg.lean LOADS. Nothing in Lean hashes anything: it is a label: what it is worth is what the hold of that sum in a sandbox is worth. -/
noncomputable def Tryz.pinned : Pinned := { name := "ythkddnmomjcdaaagreat", sum := "abbc09f53a7007def016251c857db79826939aa7ee2a064c7025f6783d958f7e", checked := Tryz.checked }
namespace Rows
def none {H : Type} : Left H := { results := [], args := [] }

/-- 'laws.FnODWrites93': WHATEVER THE INPUT: true; the input reads as it did. -/
def fnODWrites93Spec : ChangeSpec := { name := "fnODWrites93", fn := fun _ => fun
  | [d1, d2, d3] => { results := [.lit (.bool true)], args := [d1, d2, d3] }
  | _ => none }
def fnODWrites93Row : OpenClaim := { program := "ythkddnmomjcdaaagreat", sum := "abbc09f53a7007def016251c857db79826939aa7ee2a064c7025f6783d958f7e", func := "given.example/pub-quietzone/laws.FnODWrites93", spec := "fnODWrites93", unfollowed := true, recurses := true, apart := false }
def FnODWrites93Said : Prop := fnODWrites93Row.holds Tryz.pinned (OpenSpec.ofChange fnODWrites93Spec)

/-- ITS FALSE NEIGHBOUR: 'it returns false'. Refute it at one input. -/
def fnODWrites93Wrong : ChangeSpec := { name := "fnODWrites93", fn := fun _ => fun
  | [d1, d2, d3] => { results := [.lit (.bool false)], args := [d1, d2, d3] }
  | _ => none }
def FnODWrites93WrongFalsely : Prop := fnODWrites93Row.holds Tryz.pinned (OpenSpec.ofChange fnODWrites93Wrong)

/-- 'laws.FnODWritesBar': WHATEVER THE INPUT: true; the input reads as it did. -/
def fnODWritesBarSpec : ChangeSpec := { name := "fnODWritesBar", fn := fun _ => fun
  | [d1, d2, d3] => { results := [.lit (.bool true)], args := [d1, d2, d3] }
  | _ => none }
def fnODWritesBarRow : OpenClaim := { program := "ythkddnmomjcdaaagreat", sum := "abbc09f53a7007def016251c857db79826939aa7ee2a064c7025f6783d958f7e", func := "given.example/pub-quietzone/laws.FnODWritesBar", spec := "fnODWritesBar", unfollowed := true, recurses := true, apart := false }
def FnODWritesBarSaid : Prop := fnODWritesBarRow.holds Tryz.pinned (OpenSpec.ofChange fnODWritesBarSpec)

/-- ITS FALSE NEIGHBOUR: 'it returns false'. Refute it at one input. -/
def fnODWritesBarWrong : ChangeSpec := { name := "fnODWritesBar", fn := fun _ => fun
  | [d1, d2, d3] => { results := [.lit (.bool false)], args := [d1, d2, d3] }
  | _ => none }
def FnODWritesBarWrongFalsely : Prop := fnODWritesBarRow.holds Tryz.pinned (OpenSpec.ofChange fnODWritesBarWrong)

/-- 'laws.FnODWritesItf': WHATEVER THE INPUT: true; the input reads as it did. -/
def fnODWritesItfSpec : ChangeSpec := { name := "fnODWritesItf", fn := fun _ => fun
  | [d1, d2, d3] => { results := [.lit (.bool true)], args := [d1, d2, d3] }
  | _ => none }
def fnODWritesItfRow : OpenClaim := { program := "ythkddnmomjcdaaagreat", sum := "abbc09f53a7007def016251c857db79826939aa7ee2a064c7025f6783d958f7e", func := "given.example/pub-quietzone/laws.FnODWritesItf", spec := "fnODWritesItf", unfollowed := true, recurses := true, apart := false }
def FnODWritesItfSaid : Prop := fnODWritesItfRow.holds Tryz.pinned (OpenSpec.ofChange fnODWritesItfSpec)

/-- ITS FALSE NEIGHBOUR: 'it returns false'. Refute it at one input. -/
def fnODWritesItfWrong : ChangeSpec := { name := "fnODWritesItf", fn := fun _ => fun
  | [d1, d2, d3] => { results := [.lit (.bool false)], args := [d1, d2, d3] }
  | _ => none }
def FnODWritesItfWrongFalsely : Prop := fnODWritesItfRow.holds Tryz.pinned (OpenSpec.ofChange fnODWritesItfWrong)

/-- 'laws.FnODEan13Write': WHATEVER THE INPUT: true; the input reads as it did. -/
def fnODEan13WriteSpec : ChangeSpec := { name := "fnODEan13Write", fn := fun _ => fun
  | [d] => { results := [.lit (.bool true)], args := [d] }
  | _ => none }
def fnODEan13WriteRow : OpenClaim := { program := "ythkddnmomjcdaaagreat", sum := "abbc09f53a7007def016251c857db79826939aa7ee2a064c7025f6783d958f7e", func := "given.example/pub-quietzone/laws.FnODEan13Write", spec := "fnODEan13Write", unfollowed := true, recurses := true, apart := false }
def FnODEan13WriteSaid : Prop := fnODEan13WriteRow.holds Tryz.pinned (OpenSpec.ofChange fnODEan13WriteSpec)

/-- ITS FALSE NEIGHBOUR: 'it returns false'. Refute it at one input. -/
def fnODEan13WriteWrong : ChangeSpec := { name := "fnODEan13Write", fn := fun _ => fun
  | [d] => { results := [.lit (.bool false)], args := [d] }
  | _ => none }
def FnODEan13WriteWrongFalsely : Prop := fnODEan13WriteRow.holds Tryz.pinned (OpenSpec.ofChange fnODEan13WriteWrong)

/-- 'laws.FnODEan8Write': WHATEVER THE INPUT: true; the input reads as it did. -/
def fnODEan8WriteSpec : ChangeSpec := { name := "fnODEan8Write", fn := fun _ => fun
  | [d] => { results := [.lit (.bool true)], args := [d] }
  | _ => none }
def fnODEan8WriteRow : OpenClaim := { program := "ythkddnmomjcdaaagreat", sum := "abbc09f53a7007def016251c857db79826939aa7ee2a064c7025f6783d958f7e", func := "given.example/pub-quietzone/laws.FnODEan8Write", spec := "fnODEan8Write", unfollowed := true, recurses := true, apart := false }
def FnODEan8WriteSaid : Prop := fnODEan8WriteRow.holds Tryz.pinned (OpenSpec.ofChange fnODEan8WriteSpec)

/-- ITS FALSE NEIGHBOUR: 'it returns false'. Refute it at one input. -/
def fnODEan8WriteWrong : ChangeSpec := { name := "fnODEan8Write", fn := fun _ => fun
  | [d] => { results := [.lit (.bool false)], args := [d] }
  | _ => none }
def FnODEan8WriteWrongFalsely : Prop := fnODEan8WriteRow.holds Tryz.pinned (OpenSpec.ofChange fnODEan8WriteWrong)

/-- 'laws.FnODRefuses': WHATEVER THE INPUT: true; the input reads as it did. -/
def fnODRefusesSpec : ChangeSpec := { name := "fnODRefuses", fn := fun _ => fun
  | [d1, d2, d3] => { results := [.lit (.bool true)], args := [d1, d2, d3] }
  | _ => none }
def fnODRefusesRow : OpenClaim := { program := "ythkddnmomjcdaaagreat", sum := "abbc09f53a7007def016251c857db79826939aa7ee2a064c7025f6783d958f7e", func := "given.example/pub-quietzone/laws.FnODRefuses", spec := "fnODRefuses", unfollowed := true, recurses := true, apart := false }
def FnODRefusesSaid : Prop := fnODRefusesRow.holds Tryz.pinned (OpenSpec.ofChange fnODRefusesSpec)

/-- ITS FALSE NEIGHBOUR: 'it returns false'. Refute it at one input. -/
def fnODRefusesWrong : ChangeSpec := { name := "fnODRefuses", fn := fun _ => fun
  | [d1, d2, d3] => { results := [.lit (.bool false)], args := [d1, d2, d3] }
  | _ => none }
def FnODRefusesWrongFalsely : Prop := fnODRefusesRow.holds Tryz.pinned (OpenSpec.ofChange fnODRefusesWrong)

/-- 'laws.FnODUpcAWrite': WHATEVER THE INPUT: true; the input reads as it did. -/
def fnODUpcAWriteSpec : ChangeSpec := { name := "fnODUpcAWrite", fn := fun _ => fun
  | [d] => { results := [.lit (.bool true)], args := [d] }
  | _ => none }
def fnODUpcAWriteRow : OpenClaim := { program := "ythkddnmomjcdaaagreat", sum := "abbc09f53a7007def016251c857db79826939aa7ee2a064c7025f6783d958f7e", func := "given.example/pub-quietzone/laws.FnODUpcAWrite", spec := "fnODUpcAWrite", unfollowed := true, recurses := true, apart := false }
def FnODUpcAWriteSaid : Prop := fnODUpcAWriteRow.holds Tryz.pinned (OpenSpec.ofChange fnODUpcAWriteSpec)

/-- ITS FALSE NEIGHBOUR: 'it returns false'. Refute it at one input. -/
def fnODUpcAWriteWrong : ChangeSpec := { name := "fnODUpcAWrite", fn := fun _ => fun
  | [d] => { results := [.lit (.bool false)], args := [d] }
  | _ => none }
def FnODUpcAWriteWrongFalsely : Prop := fnODUpcAWriteRow.holds Tryz.pinned (OpenSpec.ofChange fnODUpcAWriteWrong)

/-- 'laws.FnODUpcEWrite': WHATEVER THE INPUT: true; the input reads as it did. -/
def fnODUpcEWriteSpec : ChangeSpec := { name := "fnODUpcEWrite", fn := fun _ => fun
  | [d] => { results := [.lit (.bool true)], args := [d] }
  | _ => none }
def fnODUpcEWriteRow : OpenClaim := { program := "ythkddnmomjcdaaagreat", sum := "abbc09f53a7007def016251c857db79826939aa7ee2a064c7025f6783d958f7e", func := "given.example/pub-quietzone/laws.FnODUpcEWrite", spec := "fnODUpcEWrite", unfollowed := true, recurses := true, apart := false }
def FnODUpcEWriteSaid : Prop := fnODUpcEWriteRow.holds Tryz.pinned (OpenSpec.ofChange fnODUpcEWriteSpec)

/-- ITS FALSE NEIGHBOUR: 'it returns false'. Refute it at one input. -/
def fnODUpcEWriteWrong : ChangeSpec := { name := "fnODUpcEWrite", fn := fun _ => fun
  | [d] => { results := [.lit (.bool false)], args := [d] }
  | _ => none }
def FnODUpcEWriteWrongFalsely : Prop := fnODUpcEWriteRow.holds Tryz.pinned (OpenSpec.ofChange fnODUpcEWriteWrong)

/-- 'laws.FnODWrites128': WHATEVER THE INPUT: true; the input reads as it did. -/
def fnODWrites128Spec : ChangeSpec := { name := "fnODWrites128", fn := fun _ => fun
  | [d] => { results := [.lit (.bool true)], args := [d] }
  | _ => none }
def fnODWrites128Row : OpenClaim := { program := "ythkddnmomjcdaaagreat", sum := "abbc09f53a7007def016251c857db79826939aa7ee2a064c7025f6783d958f7e", func := "given.example/pub-quietzone/laws.FnODWrites128", spec := "fnODWrites128", unfollowed := true, recurses := true, apart := false }
def FnODWrites128Said : Prop := fnODWrites128Row.holds Tryz.pinned (OpenSpec.ofChange fnODWrites128Spec)

/-- ITS FALSE NEIGHBOUR: 'it returns false'. Refute it at one input. -/
def fnODWrites128Wrong : ChangeSpec := { name := "fnODWrites128", fn := fun _ => fun
  | [d] => { results := [.lit (.bool false)], args := [d] }
  | _ => none }
def FnODWrites128WrongFalsely : Prop := fnODWrites128Row.holds Tryz.pinned (OpenSpec.ofChange fnODWrites128Wrong)

/-- 'laws.FnODWrites39': WHATEVER THE INPUT: true; the input reads as it did. -/
def fnODWrites39Spec : ChangeSpec := { name := "fnODWrites39", fn := fun _ => fun
  | [d1, d2, d3] => { results := [.lit (.bool true)], args := [d1, d2, d3] }
  | _ => none }
def fnODWrites39Row : OpenClaim := { program := "ythkddnmomjcdaaagreat", sum := "abbc09f53a7007def016251c857db79826939aa7ee2a064c7025f6783d958f7e", func := "given.example/pub-quietzone/laws.FnODWrites39", spec := "fnODWrites39", unfollowed := true, recurses := true, apart := false }
def FnODWrites39Said : Prop := fnODWrites39Row.holds Tryz.pinned (OpenSpec.ofChange fnODWrites39Spec)

/-- ITS FALSE NEIGHBOUR: 'it returns false'. Refute it at one input. -/
def fnODWrites39Wrong : ChangeSpec := { name := "fnODWrites39", fn := fun _ => fun
  | [d1, d2, d3] => { results := [.lit (.bool false)], args := [d1, d2, d3] }
  | _ => none }
def FnODWrites39WrongFalsely : Prop := fnODWrites39Row.holds Tryz.pinned (OpenSpec.ofChange fnODWrites39Wrong)

/- THE SECOND FORM. 'bulk': how many values and letters a reading holds, each counted each time it is reached (what is shared counts as often as it is met; a slice's spare places count too). A statement '..UptoSaid' is the law's where the arguments, and the package variables that the reading takes, are together of bulk at most 1048576: NARROWER than '..Said'. Prove '..Said' where nothing that the law and all that it calls make is longer than what came in: it says more and counts as full. Else prove '..UptoSaid'. A law counts once. -/
mutual
def uptoBulk {H : Type} : DataW H → Nat
  | .lit (.string bytes) => bytes.length + 1
  | .lit _ => 1
  | .nil => 1
  | .ptr d => uptoBulk d + 1
  | .slice elems spare => uptoBulkAll elems + uptoBulkAll spare + 1
  | .agg parts => uptoBulkAll parts + 1
  | .iface _ d => uptoBulk d + 1
  | .map entries => uptoBulkEntries entries + 1
  | .held _ => 1
def uptoBulkAll {H : Type} : List (DataW H) → Nat
  | [] => 0
  | d :: r => uptoBulk d + uptoBulkAll r
def uptoBulkEntries {H : Type} : List (Lit × DataW H) → Nat
  | [] => 0
  | x :: r => uptoBulkEntry x + uptoBulkEntries r
def uptoBulkEntry {H : Type} : Lit × DataW H → Nat
  | (.string bytes, d) => bytes.length + uptoBulk d + 1
  | (_, d) => uptoBulk d + 1
 end
def uptoSmall : (H : Type) → List (DataW H) → Bool := fun _ ds => decide (uptoBulkAll ds ≤ 1048576)
def OpenSpec.upto (s : _root_.Go.ChangeSpec) : _root_.Go.OpenSpec := { _root_.Go.OpenSpec.ofChange s with cond := some uptoSmall }

/-- 'laws.FnODWrites93', WHERE WHAT IT READS IS OF BULK AT MOST 1048576: true; the input reads as it did. -/
def fnODWrites93UptoRow : OpenClaim := { program := "ythkddnmomjcdaaagreat", sum := "abbc09f53a7007def016251c857db79826939aa7ee2a064c7025f6783d958f7e", func := "given.example/pub-quietzone/laws.FnODWrites93", spec := "fnODWrites93", unfollowed := true, recurses := true, apart := false, narrowed := true }
def FnODWrites93UptoSaid : Prop := fnODWrites93UptoRow.holds Tryz.pinned (OpenSpec.upto fnODWrites93Spec)

/-- 'laws.FnODWritesBar', WHERE WHAT IT READS IS OF BULK AT MOST 1048576: true; the input reads as it did. -/
def fnODWritesBarUptoRow : OpenClaim := { program := "ythkddnmomjcdaaagreat", sum := "abbc09f53a7007def016251c857db79826939aa7ee2a064c7025f6783d958f7e", func := "given.example/pub-quietzone/laws.FnODWritesBar", spec := "fnODWritesBar", unfollowed := true, recurses := true, apart := false, narrowed := true }
def FnODWritesBarUptoSaid : Prop := fnODWritesBarUptoRow.holds Tryz.pinned (OpenSpec.upto fnODWritesBarSpec)

/-- 'laws.FnODWritesItf', WHERE WHAT IT READS IS OF BULK AT MOST 1048576: true; the input reads as it did. -/
def fnODWritesItfUptoRow : OpenClaim := { program := "ythkddnmomjcdaaagreat", sum := "abbc09f53a7007def016251c857db79826939aa7ee2a064c7025f6783d958f7e", func := "given.example/pub-quietzone/laws.FnODWritesItf", spec := "fnODWritesItf", unfollowed := true, recurses := true, apart := false, narrowed := true }
def FnODWritesItfUptoSaid : Prop := fnODWritesItfUptoRow.holds Tryz.pinned (OpenSpec.upto fnODWritesItfSpec)

/-- 'laws.FnODEan13Write', WHERE WHAT IT READS IS OF BULK AT MOST 1048576: true; the input reads as it did. -/
def fnODEan13WriteUptoRow : OpenClaim := { program := "ythkddnmomjcdaaagreat", sum := "abbc09f53a7007def016251c857db79826939aa7ee2a064c7025f6783d958f7e", func := "given.example/pub-quietzone/laws.FnODEan13Write", spec := "fnODEan13Write", unfollowed := true, recurses := true, apart := false, narrowed := true }
def FnODEan13WriteUptoSaid : Prop := fnODEan13WriteUptoRow.holds Tryz.pinned (OpenSpec.upto fnODEan13WriteSpec)

/-- 'laws.FnODEan8Write', WHERE WHAT IT READS IS OF BULK AT MOST 1048576: true; the input reads as it did. -/
def fnODEan8WriteUptoRow : OpenClaim := { program := "ythkddnmomjcdaaagreat", sum := "abbc09f53a7007def016251c857db79826939aa7ee2a064c7025f6783d958f7e", func := "given.example/pub-quietzone/laws.FnODEan8Write", spec := "fnODEan8Write", unfollowed := true, recurses := true, apart := false, narrowed := true }
def FnODEan8WriteUptoSaid : Prop := fnODEan8WriteUptoRow.holds Tryz.pinned (OpenSpec.upto fnODEan8WriteSpec)

/-- 'laws.FnODRefuses', WHERE WHAT IT READS IS OF BULK AT MOST 1048576: true; the input reads as it did. -/
def fnODRefusesUptoRow : OpenClaim := { program := "ythkddnmomjcdaaagreat", sum := "abbc09f53a7007def016251c857db79826939aa7ee2a064c7025f6783d958f7e", func := "given.example/pub-quietzone/laws.FnODRefuses", spec := "fnODRefuses", unfollowed := true, recurses := true, apart := false, narrowed := true }
def FnODRefusesUptoSaid : Prop := fnODRefusesUptoRow.holds Tryz.pinned (OpenSpec.upto fnODRefusesSpec)

/-- 'laws.FnODUpcAWrite', WHERE WHAT IT READS IS OF BULK AT MOST 1048576: true; the input reads as it did. -/
def fnODUpcAWriteUptoRow : OpenClaim := { program := "ythkddnmomjcdaaagreat", sum := "abbc09f53a7007def016251c857db79826939aa7ee2a064c7025f6783d958f7e", func := "given.example/pub-quietzone/laws.FnODUpcAWrite", spec := "fnODUpcAWrite", unfollowed := true, recurses := true, apart := false, narrowed := true }
def FnODUpcAWriteUptoSaid : Prop := fnODUpcAWriteUptoRow.holds Tryz.pinned (OpenSpec.upto fnODUpcAWriteSpec)

/-- 'laws.FnODUpcEWrite', WHERE WHAT IT READS IS OF BULK AT MOST 1048576: true; the input reads as it did. -/
def fnODUpcEWriteUptoRow : OpenClaim := { program := "ythkddnmomjcdaaagreat", sum := "abbc09f53a7007def016251c857db79826939aa7ee2a064c7025f6783d958f7e", func := "given.example/pub-quietzone/laws.FnODUpcEWrite", spec := "fnODUpcEWrite", unfollowed := true, recurses := true, apart := false, narrowed := true }
def FnODUpcEWriteUptoSaid : Prop := fnODUpcEWriteUptoRow.holds Tryz.pinned (OpenSpec.upto fnODUpcEWriteSpec)

/-- 'laws.FnODWrites128', WHERE WHAT IT READS IS OF BULK AT MOST 1048576: true; the input reads as it did. -/
def fnODWrites128UptoRow : OpenClaim := { program := "ythkddnmomjcdaaagreat", sum := "abbc09f53a7007def016251c857db79826939aa7ee2a064c7025f6783d958f7e", func := "given.example/pub-quietzone/laws.FnODWrites128", spec := "fnODWrites128", unfollowed := true, recurses := true, apart := false, narrowed := true }
def FnODWrites128UptoSaid : Prop := fnODWrites128UptoRow.holds Tryz.pinned (OpenSpec.upto fnODWrites128Spec)

/-- 'laws.FnODWrites39', WHERE WHAT IT READS IS OF BULK AT MOST 1048576: true; the input reads as it did. -/
def fnODWrites39UptoRow : OpenClaim := { program := "ythkddnmomjcdaaagreat", sum := "abbc09f53a7007def016251c857db79826939aa7ee2a064c7025f6783d958f7e", func := "given.example/pub-quietzone/laws.FnODWrites39", spec := "fnODWrites39", unfollowed := true, recurses := true, apart := false, narrowed := true }
def FnODWrites39UptoSaid : Prop := fnODWrites39UptoRow.holds Tryz.pinned (OpenSpec.upto fnODWrites39Spec)

end Rows
end Go.Proofs.YthkddnmomjcdaaaGreat
