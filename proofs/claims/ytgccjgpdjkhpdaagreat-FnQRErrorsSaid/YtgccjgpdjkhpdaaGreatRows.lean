/-
  No cell of these rows narrows 'for every input' (looked for: loops, veiled, ifaces, maps, wideKeys, modest, calm, conditions, laid).
  DERIVED. THE GIVEN ROWS OF THIS SEAT. 6 by the template 'for every input the law returns true; each argument reads behind the call as it read before'; 0 by the template 'total and deterministic' (their statements: YtgccjgpdjkhpdaaGreatTotals.lean).
  GIVEN WITH THE SEED: the statements are not yours to turn. If you find one false, say at which input.
  Laid BY PROGRAM, IN A SANDBOX (cutbox-rows.mjs): the forced cells as the released guide's own fill.sh prints them over the translation 064a2f4136000784… (all of the seat's roots in one cut). By AI agents, Wed Nov 11 2026. No macro, syntax, notation, axiom, sorry.
-/
import Derived.Test.YtgccjgpdjkhpdaaGreatChecked
import GoSem.Claim
import GoSem.ClaimJoined
import GoSem.ClaimMapViews
import Derived.JoinedTies
import Derived.KernelRfl
namespace Go.Proofs.YtgccjgpdjkhpdaaGreat
/- THE CELL 'sum', in the pinned program and in every row, IS THE sha256 OF THE DUMP (.gsa) THAT YtgccjgpdjkhpdaaGreatProg.lean LOADS. Nothing in Lean hashes anything: it is a label: what it is worth is what the hold of that sum in a sandbox is worth. -/
noncomputable def Tryz.pinned : Pinned := { name := "ytgccjgpdjkhpdaagreat", sum := "064a2f41360007846681ffd50f8fdebfc8fb444ab234c83d6b6ff74c6c21b0eb", checked := Tryz.checked }
namespace Rows
def none {H : Type} : Left H := { results := [], args := [] }

/-- 'laws.FnQRNoSize': WHATEVER THE INPUT: true; the input reads as it did. -/
def fnQRNoSizeSpec : ChangeSpec := { name := "fnQRNoSize", fn := fun _ => fun
  | [d1, d2] => { results := [.lit (.bool true)], args := [d1, d2] }
  | _ => none }
def fnQRNoSizeRow : OpenClaim := { program := "ytgccjgpdjkhpdaagreat", sum := "064a2f41360007846681ffd50f8fdebfc8fb444ab234c83d6b6ff74c6c21b0eb", func := "given.example/pub-quietzone/laws.FnQRNoSize", spec := "fnQRNoSize", unfollowed := true, recurses := true, apart := false }
def FnQRNoSizeSaid : Prop := fnQRNoSizeRow.holds Tryz.pinned (OpenSpec.ofChange fnQRNoSizeSpec)

/-- ITS FALSE NEIGHBOUR: 'it returns false'. Refute it at one input. -/
def fnQRNoSizeWrong : ChangeSpec := { name := "fnQRNoSize", fn := fun _ => fun
  | [d1, d2] => { results := [.lit (.bool false)], args := [d1, d2] }
  | _ => none }
def FnQRNoSizeWrongFalsely : Prop := fnQRNoSizeRow.holds Tryz.pinned (OpenSpec.ofChange fnQRNoSizeWrong)

/-- 'laws.FnQRCrop': WHATEVER THE INPUT: true; the input reads as it did. -/
def fnQRCropSpec : ChangeSpec := { name := "fnQRCrop", fn := fun _ => fun
  | [d1, d2, d3, d4, d5] => { results := [.lit (.bool true)], args := [d1, d2, d3, d4, d5] }
  | _ => none }
def fnQRCropRow : OpenClaim := { program := "ytgccjgpdjkhpdaagreat", sum := "064a2f41360007846681ffd50f8fdebfc8fb444ab234c83d6b6ff74c6c21b0eb", func := "given.example/pub-quietzone/laws.FnQRCrop", spec := "fnQRCrop", unfollowed := true, recurses := true, apart := false }
def FnQRCropSaid : Prop := fnQRCropRow.holds Tryz.pinned (OpenSpec.ofChange fnQRCropSpec)

/-- ITS FALSE NEIGHBOUR: 'it returns false'. Refute it at one input. -/
def fnQRCropWrong : ChangeSpec := { name := "fnQRCrop", fn := fun _ => fun
  | [d1, d2, d3, d4, d5] => { results := [.lit (.bool false)], args := [d1, d2, d3, d4, d5] }
  | _ => none }
def FnQRCropWrongFalsely : Prop := fnQRCropRow.holds Tryz.pinned (OpenSpec.ofChange fnQRCropWrong)

/-- 'laws.FnQRBack': WHATEVER THE INPUT: true; the input reads as it did. -/
def fnQRBackSpec : ChangeSpec := { name := "fnQRBack", fn := fun _ => fun
  | [d1, d2, d3, d4] => { results := [.lit (.bool true)], args := [d1, d2, d3, d4] }
  | _ => none }
def fnQRBackRow : OpenClaim := { program := "ytgccjgpdjkhpdaagreat", sum := "064a2f41360007846681ffd50f8fdebfc8fb444ab234c83d6b6ff74c6c21b0eb", func := "given.example/pub-quietzone/laws.FnQRBack", spec := "fnQRBack", unfollowed := true, recurses := true, apart := false }
def FnQRBackSaid : Prop := fnQRBackRow.holds Tryz.pinned (OpenSpec.ofChange fnQRBackSpec)

/-- ITS FALSE NEIGHBOUR: 'it returns false'. Refute it at one input. -/
def fnQRBackWrong : ChangeSpec := { name := "fnQRBack", fn := fun _ => fun
  | [d1, d2, d3, d4] => { results := [.lit (.bool false)], args := [d1, d2, d3, d4] }
  | _ => none }
def FnQRBackWrongFalsely : Prop := fnQRBackRow.holds Tryz.pinned (OpenSpec.ofChange fnQRBackWrong)

/-- 'laws.FnQRAnyWords': WHATEVER THE INPUT: true; the input reads as it did. -/
def fnQRAnyWordsSpec : ChangeSpec := { name := "fnQRAnyWords", fn := fun _ => fun
  | [d1, d2, d3, d4] => { results := [.lit (.bool true)], args := [d1, d2, d3, d4] }
  | _ => none }
def fnQRAnyWordsRow : OpenClaim := { program := "ytgccjgpdjkhpdaagreat", sum := "064a2f41360007846681ffd50f8fdebfc8fb444ab234c83d6b6ff74c6c21b0eb", func := "given.example/pub-quietzone/laws.FnQRAnyWords", spec := "fnQRAnyWords", unfollowed := true, recurses := true, apart := false }
def FnQRAnyWordsSaid : Prop := fnQRAnyWordsRow.holds Tryz.pinned (OpenSpec.ofChange fnQRAnyWordsSpec)

/-- ITS FALSE NEIGHBOUR: 'it returns false'. Refute it at one input. -/
def fnQRAnyWordsWrong : ChangeSpec := { name := "fnQRAnyWords", fn := fun _ => fun
  | [d1, d2, d3, d4] => { results := [.lit (.bool false)], args := [d1, d2, d3, d4] }
  | _ => none }
def FnQRAnyWordsWrongFalsely : Prop := fnQRAnyWordsRow.holds Tryz.pinned (OpenSpec.ofChange fnQRAnyWordsWrong)

/-- 'laws.FnQRGs1': WHATEVER THE INPUT: true; the input reads as it did. -/
def fnQRGs1Spec : ChangeSpec := { name := "fnQRGs1", fn := fun _ => fun
  | [d1, d2, d3, d4, d5] => { results := [.lit (.bool true)], args := [d1, d2, d3, d4, d5] }
  | _ => none }
def fnQRGs1Row : OpenClaim := { program := "ytgccjgpdjkhpdaagreat", sum := "064a2f41360007846681ffd50f8fdebfc8fb444ab234c83d6b6ff74c6c21b0eb", func := "given.example/pub-quietzone/laws.FnQRGs1", spec := "fnQRGs1", unfollowed := true, recurses := true, apart := false }
def FnQRGs1Said : Prop := fnQRGs1Row.holds Tryz.pinned (OpenSpec.ofChange fnQRGs1Spec)

/-- ITS FALSE NEIGHBOUR: 'it returns false'. Refute it at one input. -/
def fnQRGs1Wrong : ChangeSpec := { name := "fnQRGs1", fn := fun _ => fun
  | [d1, d2, d3, d4, d5] => { results := [.lit (.bool false)], args := [d1, d2, d3, d4, d5] }
  | _ => none }
def FnQRGs1WrongFalsely : Prop := fnQRGs1Row.holds Tryz.pinned (OpenSpec.ofChange fnQRGs1Wrong)

/-- 'laws.FnQRErrors': WHATEVER THE INPUT: true; the input reads as it did. -/
def fnQRErrorsSpec : ChangeSpec := { name := "fnQRErrors", fn := fun _ => fun
  | [d1, d2, d3, d4, d5, d6] => { results := [.lit (.bool true)], args := [d1, d2, d3, d4, d5, d6] }
  | _ => none }
def fnQRErrorsRow : OpenClaim := { program := "ytgccjgpdjkhpdaagreat", sum := "064a2f41360007846681ffd50f8fdebfc8fb444ab234c83d6b6ff74c6c21b0eb", func := "given.example/pub-quietzone/laws.FnQRErrors", spec := "fnQRErrors", unfollowed := true, recurses := true, apart := false }
def FnQRErrorsSaid : Prop := fnQRErrorsRow.holds Tryz.pinned (OpenSpec.ofChange fnQRErrorsSpec)

/-- ITS FALSE NEIGHBOUR: 'it returns false'. Refute it at one input. -/
def fnQRErrorsWrong : ChangeSpec := { name := "fnQRErrors", fn := fun _ => fun
  | [d1, d2, d3, d4, d5, d6] => { results := [.lit (.bool false)], args := [d1, d2, d3, d4, d5, d6] }
  | _ => none }
def FnQRErrorsWrongFalsely : Prop := fnQRErrorsRow.holds Tryz.pinned (OpenSpec.ofChange fnQRErrorsWrong)

/- THE SECOND FORM. 'bulk': how many values and letters a reading holds, each counted each time it is reached (what is shared counts as often as it is met; a slice's spare places count too). A statement '..UptoSaid' is the law's where the arguments, and the package variables that the reading takes, are together of bulk at most 1048576: NARROWER than '..Said'. Prove '..Said' where nothing that the law and all that it calls make is longer than what came in: it says more and counts as full. Else prove '..UptoSaid'. A law counts once. -/
mutual
def uptoBulk {H : Type} : DataW H → Nat
  | .lit (.string bytes) => bytes.length + 1
  | .lit _ => 1
  | .nil => 1
  | .ptr d => uptoBulk d + 1
  | .slice elems spare => uptoBulkAll elems + uptoBulkAll spare + 1
  | .agg parts => uptoBulkAll parts + 1
  | .iface _ d => uptoBulk d + 1
  | .map entries => uptoBulkEntries entries + 1
  | .held _ => 1
def uptoBulkAll {H : Type} : List (DataW H) → Nat
  | [] => 0
  | d :: r => uptoBulk d + uptoBulkAll r
def uptoBulkEntries {H : Type} : List (Lit × DataW H) → Nat
  | [] => 0
  | x :: r => uptoBulkEntry x + uptoBulkEntries r
def uptoBulkEntry {H : Type} : Lit × DataW H → Nat
  | (.string bytes, d) => bytes.length + uptoBulk d + 1
  | (_, d) => uptoBulk d + 1
 end
def uptoSmall : (H : Type) → List (DataW H) → Bool := fun _ ds => decide (uptoBulkAll ds ≤ 1048576)
def OpenSpec.upto (s : _root_.Go.ChangeSpec) : _root_.Go.OpenSpec := { _root_.Go.OpenSpec.ofChange s with cond := some uptoSmall }

/-- 'laws.FnQRNoSize', WHERE WHAT IT READS IS OF BULK AT MOST 1048576: true; the input reads as it did. -/
def fnQRNoSizeUptoRow : OpenClaim := { program := "ytgccjgpdjkhpdaagreat", sum := "064a2f41360007846681ffd50f8fdebfc8fb444ab234c83d6b6ff74c6c21b0eb", func := "given.example/pub-quietzone/laws.FnQRNoSize", spec := "fnQRNoSize", unfollowed := true, recurses := true, apart := false, narrowed := true }
def FnQRNoSizeUptoSaid : Prop := fnQRNoSizeUptoRow.holds Tryz.pinned (OpenSpec.upto fnQRNoSizeSpec)

/-- 'laws.FnQRCrop', WHERE WHAT IT READS IS OF BULK AT MOST 1048576: true; the input reads as it did. -/
def fnQRCropUptoRow : OpenClaim := { program := "ytgccjgpdjkhpdaagreat", sum := "064a2f41360007846681ffd50f8fdebfc8fb444ab234c83d6b6ff74c6c21b0eb", func := "given.example/pub-quietzone/laws.FnQRCrop", spec := "fnQRCrop", unfollowed := true, recurses := true, apart := false, narrowed := true }
def FnQRCropUptoSaid : Prop := fnQRCropUptoRow.holds Tryz.pinned (OpenSpec.upto fnQRCropSpec)

/-- 'laws.FnQRBack', WHERE WHAT IT READS IS OF BULK AT MOST 1048576: true; the input reads as it did. -/
def fnQRBackUptoRow : OpenClaim := { program := "ytgccjgpdjkhpdaagreat", sum := "064a2f41360007846681ffd50f8fdebfc8fb444ab234c83d6b6ff74c6c21b0eb", func := "given.example/pub-quietzone/laws.FnQRBack", spec := "fnQRBack", unfollowed := true, recurses := true, apart := false, narrowed := true }
def FnQRBackUptoSaid : Prop := fnQRBackUptoRow.holds Tryz.pinned (OpenSpec.upto fnQRBackSpec)

/-- 'laws.FnQRAnyWords', WHERE WHAT IT READS IS OF BULK AT MOST 1048576: true; the input reads as it did. -/
def fnQRAnyWordsUptoRow : OpenClaim := { program := "ytgccjgpdjkhpdaagreat", sum := "064a2f41360007846681ffd50f8fdebfc8fb444ab234c83d6b6ff74c6c21b0eb", func := "given.example/pub-quietzone/laws.FnQRAnyWords", spec := "fnQRAnyWords", unfollowed := true, recurses := true, apart := false, narrowed := true }
def FnQRAnyWordsUptoSaid : Prop := fnQRAnyWordsUptoRow.holds Tryz.pinned (OpenSpec.upto fnQRAnyWordsSpec)

/-- 'laws.FnQRGs1', WHERE WHAT IT READS IS OF BULK AT MOST 1048576: true; the input reads as it did. -/
def fnQRGs1UptoRow : OpenClaim := { program := "ytgccjgpdjkhpdaagreat", sum := "064a2f41360007846681ffd50f8fdebfc8fb444ab234c83d6b6ff74c6c21b0eb", func := "given.example/pub-quietzone/laws.FnQRGs1", spec := "fnQRGs1", unfollowed := true, recurses := true, apart := false, narrowed := true }
def FnQRGs1UptoSaid : Prop := fnQRGs1UptoRow.holds Tryz.pinned (OpenSpec.upto fnQRGs1Spec)

/-- 'laws.FnQRErrors', WHERE WHAT IT READS IS OF BULK AT MOST 1048576: true; the input reads as it did. -/
def fnQRErrorsUptoRow : OpenClaim := { program := "ytgccjgpdjkhpdaagreat", sum := "064a2f41360007846681ffd50f8fdebfc8fb444ab234c83d6b6ff74c6c21b0eb", func := "given.example/pub-quietzone/laws.FnQRErrors", spec := "fnQRErrors", unfollowed := true, recurses := true, apart := false, narrowed := true }
def FnQRErrorsUptoSaid : Prop := fnQRErrorsUptoRow.holds Tryz.pinned (OpenSpec.upto fnQRErrorsSpec)

end Rows
end Go.Proofs.YtgccjgpdjkhpdaaGreat
