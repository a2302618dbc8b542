/-
  No cell of these rows narrows 'for every input' (looked for: loops, veiled, ifaces, maps, wideKeys, modest, calm, conditions, laid).
  DERIVED. THE GIVEN ROWS OF THIS SEAT. 15 by the template 'for every input the law returns true; each argument reads behind the call as it read before'; 0 by the template 'total and deterministic' (their statements: YtdciccgeabdmcaaTotals.lean).
  GIVEN WITH THE SEED: the statements are not yours to turn. If you find one false, say at which input.
  Laid BY PROGRAM, IN A SANDBOX (cutbox-rows.mjs): the forced cells as the released guide's own fill.sh prints them over the translation 602b6f1ba79d291f… (all of the seat's roots in one cut). By AI agents, Wed Nov 11 2026. No macro, syntax, notation, axiom, sorry.
-/
import Derived.Test.YtdciccgeabdmcaaChecked
import GoSem.Claim
import GoSem.ClaimJoined
import GoSem.ClaimMapViews
import Derived.JoinedTies
import Derived.KernelRfl
namespace Go.Proofs.Ytdciccgeabdmcaa
/- THE CELL 'sum', in the pinned program and in every row, IS THE sha256 OF THE DUMP (.gsa) THAT YtdciccgeabdmcaaProg.lean LOADS. Nothing in Lean hashes anything: it is a label: what it is worth is what the hold of that sum in a sandbox is worth. -/
noncomputable def Try.pinned : Pinned := { name := "ytdciccgeabdmcaa", sum := "602b6f1ba79d291fd9d94059118c1527a5e9a2d706fced3274e4b8e332bca42f", checked := Try.checked }
namespace Rows
def none {H : Type} : Left H := { results := [], args := [] }

/-- 'laws.FnExactWithout': WHATEVER THE INPUT: true; the input reads as it did. -/
def fnExactWithoutSpec : ChangeSpec := { name := "fnExactWithout", fn := fun _ => fun
  | [d] => { results := [.lit (.bool true)], args := [d] }
  | _ => none }
def fnExactWithoutRow : OpenClaim := { program := "ytdciccgeabdmcaa", sum := "602b6f1ba79d291fd9d94059118c1527a5e9a2d706fced3274e4b8e332bca42f", func := "loop.example/lib-g03422/laws.FnExactWithout", spec := "fnExactWithout", unfollowed := true, recurses := true, apart := false }
def FnExactWithoutSaid : Prop := fnExactWithoutRow.holds Try.pinned (OpenSpec.ofChange fnExactWithoutSpec)

/-- ITS FALSE NEIGHBOUR: 'it returns false'. Refute it at one input. -/
def fnExactWithoutWrong : ChangeSpec := { name := "fnExactWithout", fn := fun _ => fun
  | [d] => { results := [.lit (.bool false)], args := [d] }
  | _ => none }
def FnExactWithoutWrongFalsely : Prop := fnExactWithoutRow.holds Try.pinned (OpenSpec.ofChange fnExactWithoutWrong)

/-- 'laws.FnExpandAny': WHATEVER THE INPUT: true; the input reads as it did. -/
def fnExpandAnySpec : ChangeSpec := { name := "fnExpandAny", fn := fun _ => fun
  | [d1, d2] => { results := [.lit (.bool true)], args := [d1, d2] }
  | _ => none }
def fnExpandAnyRow : OpenClaim := { program := "ytdciccgeabdmcaa", sum := "602b6f1ba79d291fd9d94059118c1527a5e9a2d706fced3274e4b8e332bca42f", func := "loop.example/lib-g03422/laws.FnExpandAny", spec := "fnExpandAny", unfollowed := true, recurses := true, apart := false }
def FnExpandAnySaid : Prop := fnExpandAnyRow.holds Try.pinned (OpenSpec.ofChange fnExpandAnySpec)

/-- ITS FALSE NEIGHBOUR: 'it returns false'. Refute it at one input. -/
def fnExpandAnyWrong : ChangeSpec := { name := "fnExpandAny", fn := fun _ => fun
  | [d1, d2] => { results := [.lit (.bool false)], args := [d1, d2] }
  | _ => none }
def FnExpandAnyWrongFalsely : Prop := fnExpandAnyRow.holds Try.pinned (OpenSpec.ofChange fnExpandAnyWrong)

/-- 'laws.FnExpandBare': WHATEVER THE INPUT: true; the input reads as it did. -/
def fnExpandBareSpec : ChangeSpec := { name := "fnExpandBare", fn := fun _ => fun
  | [d1, d2, d3, d4, d5] => { results := [.lit (.bool true)], args := [d1, d2, d3, d4, d5] }
  | _ => none }
def fnExpandBareRow : OpenClaim := { program := "ytdciccgeabdmcaa", sum := "602b6f1ba79d291fd9d94059118c1527a5e9a2d706fced3274e4b8e332bca42f", func := "loop.example/lib-g03422/laws.FnExpandBare", spec := "fnExpandBare", unfollowed := true, recurses := true, apart := false }
def FnExpandBareSaid : Prop := fnExpandBareRow.holds Try.pinned (OpenSpec.ofChange fnExpandBareSpec)

/-- ITS FALSE NEIGHBOUR: 'it returns false'. Refute it at one input. -/
def fnExpandBareWrong : ChangeSpec := { name := "fnExpandBare", fn := fun _ => fun
  | [d1, d2, d3, d4, d5] => { results := [.lit (.bool false)], args := [d1, d2, d3, d4, d5] }
  | _ => none }
def FnExpandBareWrongFalsely : Prop := fnExpandBareRow.holds Try.pinned (OpenSpec.ofChange fnExpandBareWrong)

/-- 'laws.FnExpandBraces': WHATEVER THE INPUT: true; the input reads as it did. -/
def fnExpandBracesSpec : ChangeSpec := { name := "fnExpandBraces", fn := fun _ => fun
  | [d1, d2, d3, d4, d5] => { results := [.lit (.bool true)], args := [d1, d2, d3, d4, d5] }
  | _ => none }
def fnExpandBracesRow : OpenClaim := { program := "ytdciccgeabdmcaa", sum := "602b6f1ba79d291fd9d94059118c1527a5e9a2d706fced3274e4b8e332bca42f", func := "loop.example/lib-g03422/laws.FnExpandBraces", spec := "fnExpandBraces", unfollowed := true, recurses := true, apart := false }
def FnExpandBracesSaid : Prop := fnExpandBracesRow.holds Try.pinned (OpenSpec.ofChange fnExpandBracesSpec)

/-- ITS FALSE NEIGHBOUR: 'it returns false'. Refute it at one input. -/
def fnExpandBracesWrong : ChangeSpec := { name := "fnExpandBraces", fn := fun _ => fun
  | [d1, d2, d3, d4, d5] => { results := [.lit (.bool false)], args := [d1, d2, d3, d4, d5] }
  | _ => none }
def FnExpandBracesWrongFalsely : Prop := fnExpandBracesRow.holds Try.pinned (OpenSpec.ofChange fnExpandBracesWrong)

/-- 'laws.FnExpandIs': WHATEVER THE INPUT: true; the input reads as it did. -/
def fnExpandIsSpec : ChangeSpec := { name := "fnExpandIs", fn := fun _ => fun
  | [d1, d2, d3] => { results := [.lit (.bool true)], args := [d1, d2, d3] }
  | _ => none }
def fnExpandIsRow : OpenClaim := { program := "ytdciccgeabdmcaa", sum := "602b6f1ba79d291fd9d94059118c1527a5e9a2d706fced3274e4b8e332bca42f", func := "loop.example/lib-g03422/laws.FnExpandIs", spec := "fnExpandIs", unfollowed := true, recurses := true, apart := false }
def FnExpandIsSaid : Prop := fnExpandIsRow.holds Try.pinned (OpenSpec.ofChange fnExpandIsSpec)

/-- ITS FALSE NEIGHBOUR: 'it returns false'. Refute it at one input. -/
def fnExpandIsWrong : ChangeSpec := { name := "fnExpandIs", fn := fun _ => fun
  | [d1, d2, d3] => { results := [.lit (.bool false)], args := [d1, d2, d3] }
  | _ => none }
def FnExpandIsWrongFalsely : Prop := fnExpandIsRow.holds Try.pinned (OpenSpec.ofChange fnExpandIsWrong)

/-- 'laws.FnExpandParts': WHATEVER THE INPUT: true; the input reads as it did. -/
def fnExpandPartsSpec : ChangeSpec := { name := "fnExpandParts", fn := fun _ => fun
  | [d1, d2, d3, d4] => { results := [.lit (.bool true)], args := [d1, d2, d3, d4] }
  | _ => none }
def fnExpandPartsRow : OpenClaim := { program := "ytdciccgeabdmcaa", sum := "602b6f1ba79d291fd9d94059118c1527a5e9a2d706fced3274e4b8e332bca42f", func := "loop.example/lib-g03422/laws.FnExpandParts", spec := "fnExpandParts", unfollowed := true, recurses := true, apart := false }
def FnExpandPartsSaid : Prop := fnExpandPartsRow.holds Try.pinned (OpenSpec.ofChange fnExpandPartsSpec)

/-- ITS FALSE NEIGHBOUR: 'it returns false'. Refute it at one input. -/
def fnExpandPartsWrong : ChangeSpec := { name := "fnExpandParts", fn := fun _ => fun
  | [d1, d2, d3, d4] => { results := [.lit (.bool false)], args := [d1, d2, d3, d4] }
  | _ => none }
def FnExpandPartsWrongFalsely : Prop := fnExpandPartsRow.holds Try.pinned (OpenSpec.ofChange fnExpandPartsWrong)

/-- 'laws.FnExpandPlain': WHATEVER THE INPUT: true; the input reads as it did. -/
def fnExpandPlainSpec : ChangeSpec := { name := "fnExpandPlain", fn := fun _ => fun
  | [d1, d2, d3] => { results := [.lit (.bool true)], args := [d1, d2, d3] }
  | _ => none }
def fnExpandPlainRow : OpenClaim := { program := "ytdciccgeabdmcaa", sum := "602b6f1ba79d291fd9d94059118c1527a5e9a2d706fced3274e4b8e332bca42f", func := "loop.example/lib-g03422/laws.FnExpandPlain", spec := "fnExpandPlain", unfollowed := true, recurses := true, apart := false }
def FnExpandPlainSaid : Prop := fnExpandPlainRow.holds Try.pinned (OpenSpec.ofChange fnExpandPlainSpec)

/-- ITS FALSE NEIGHBOUR: 'it returns false'. Refute it at one input. -/
def fnExpandPlainWrong : ChangeSpec := { name := "fnExpandPlain", fn := fun _ => fun
  | [d1, d2, d3] => { results := [.lit (.bool false)], args := [d1, d2, d3] }
  | _ => none }
def FnExpandPlainWrongFalsely : Prop := fnExpandPlainRow.holds Try.pinned (OpenSpec.ofChange fnExpandPlainWrong)

/-- 'laws.FnExpandRoads': WHATEVER THE INPUT: true; the input reads as it did. -/
def fnExpandRoadsSpec : ChangeSpec := { name := "fnExpandRoads", fn := fun _ => fun
  | [d1, d2, d3, d4, d5] => { results := [.lit (.bool true)], args := [d1, d2, d3, d4, d5] }
  | _ => none }
def fnExpandRoadsRow : OpenClaim := { program := "ytdciccgeabdmcaa", sum := "602b6f1ba79d291fd9d94059118c1527a5e9a2d706fced3274e4b8e332bca42f", func := "loop.example/lib-g03422/laws.FnExpandRoads", spec := "fnExpandRoads", unfollowed := true, recurses := true, apart := false }
def FnExpandRoadsSaid : Prop := fnExpandRoadsRow.holds Try.pinned (OpenSpec.ofChange fnExpandRoadsSpec)

/-- ITS FALSE NEIGHBOUR: 'it returns false'. Refute it at one input. -/
def fnExpandRoadsWrong : ChangeSpec := { name := "fnExpandRoads", fn := fun _ => fun
  | [d1, d2, d3, d4, d5] => { results := [.lit (.bool false)], args := [d1, d2, d3, d4, d5] }
  | _ => none }
def FnExpandRoadsWrongFalsely : Prop := fnExpandRoadsRow.holds Try.pinned (OpenSpec.ofChange fnExpandRoadsWrong)

/-- 'laws.FnExpandRows': WHATEVER THE INPUT: true; the input reads as it did. -/
def fnExpandRowsSpec : ChangeSpec := { name := "fnExpandRows", fn := fun _ => fun
  | [d1, d2, d3, d4, d5] => { results := [.lit (.bool true)], args := [d1, d2, d3, d4, d5] }
  | _ => none }
def fnExpandRowsRow : OpenClaim := { program := "ytdciccgeabdmcaa", sum := "602b6f1ba79d291fd9d94059118c1527a5e9a2d706fced3274e4b8e332bca42f", func := "loop.example/lib-g03422/laws.FnExpandRows", spec := "fnExpandRows", unfollowed := true, recurses := true, apart := false }
def FnExpandRowsSaid : Prop := fnExpandRowsRow.holds Try.pinned (OpenSpec.ofChange fnExpandRowsSpec)

/-- ITS FALSE NEIGHBOUR: 'it returns false'. Refute it at one input. -/
def fnExpandRowsWrong : ChangeSpec := { name := "fnExpandRows", fn := fun _ => fun
  | [d1, d2, d3, d4, d5] => { results := [.lit (.bool false)], args := [d1, d2, d3, d4, d5] }
  | _ => none }
def FnExpandRowsWrongFalsely : Prop := fnExpandRowsRow.holds Try.pinned (OpenSpec.ofChange fnExpandRowsWrong)

/-- 'laws.FnExpandSelf': WHATEVER THE INPUT: true; the input reads as it did. -/
def fnExpandSelfSpec : ChangeSpec := { name := "fnExpandSelf", fn := fun _ => fun
  | [d1, d2] => { results := [.lit (.bool true)], args := [d1, d2] }
  | _ => none }
def fnExpandSelfRow : OpenClaim := { program := "ytdciccgeabdmcaa", sum := "602b6f1ba79d291fd9d94059118c1527a5e9a2d706fced3274e4b8e332bca42f", func := "loop.example/lib-g03422/laws.FnExpandSelf", spec := "fnExpandSelf", unfollowed := true, recurses := true, apart := false }
def FnExpandSelfSaid : Prop := fnExpandSelfRow.holds Try.pinned (OpenSpec.ofChange fnExpandSelfSpec)

/-- ITS FALSE NEIGHBOUR: 'it returns false'. Refute it at one input. -/
def fnExpandSelfWrong : ChangeSpec := { name := "fnExpandSelf", fn := fun _ => fun
  | [d1, d2] => { results := [.lit (.bool false)], args := [d1, d2] }
  | _ => none }
def FnExpandSelfWrongFalsely : Prop := fnExpandSelfRow.holds Try.pinned (OpenSpec.ofChange fnExpandSelfWrong)

/-- 'laws.FnExpandSign': WHATEVER THE INPUT: true; the input reads as it did. -/
def fnExpandSignSpec : ChangeSpec := { name := "fnExpandSign", fn := fun _ => fun
  | [d1, d2] => { results := [.lit (.bool true)], args := [d1, d2] }
  | _ => none }
def fnExpandSignRow : OpenClaim := { program := "ytdciccgeabdmcaa", sum := "602b6f1ba79d291fd9d94059118c1527a5e9a2d706fced3274e4b8e332bca42f", func := "loop.example/lib-g03422/laws.FnExpandSign", spec := "fnExpandSign", unfollowed := true, recurses := true, apart := false }
def FnExpandSignSaid : Prop := fnExpandSignRow.holds Try.pinned (OpenSpec.ofChange fnExpandSignSpec)

/-- ITS FALSE NEIGHBOUR: 'it returns false'. Refute it at one input. -/
def fnExpandSignWrong : ChangeSpec := { name := "fnExpandSign", fn := fun _ => fun
  | [d1, d2] => { results := [.lit (.bool false)], args := [d1, d2] }
  | _ => none }
def FnExpandSignWrongFalsely : Prop := fnExpandSignRow.holds Try.pinned (OpenSpec.ofChange fnExpandSignWrong)

/-- 'laws.FnExpandSum': WHATEVER THE INPUT: true; the input reads as it did. -/
def fnExpandSumSpec : ChangeSpec := { name := "fnExpandSum", fn := fun _ => fun
  | [d1, d2, d3, d4] => { results := [.lit (.bool true)], args := [d1, d2, d3, d4] }
  | _ => none }
def fnExpandSumRow : OpenClaim := { program := "ytdciccgeabdmcaa", sum := "602b6f1ba79d291fd9d94059118c1527a5e9a2d706fced3274e4b8e332bca42f", func := "loop.example/lib-g03422/laws.FnExpandSum", spec := "fnExpandSum", unfollowed := true, recurses := true, apart := false }
def FnExpandSumSaid : Prop := fnExpandSumRow.holds Try.pinned (OpenSpec.ofChange fnExpandSumSpec)

/-- ITS FALSE NEIGHBOUR: 'it returns false'. Refute it at one input. -/
def fnExpandSumWrong : ChangeSpec := { name := "fnExpandSum", fn := fun _ => fun
  | [d1, d2, d3, d4] => { results := [.lit (.bool false)], args := [d1, d2, d3, d4] }
  | _ => none }
def FnExpandSumWrongFalsely : Prop := fnExpandSumRow.holds Try.pinned (OpenSpec.ofChange fnExpandSumWrong)

/-- 'laws.FnExpandTwice': WHATEVER THE INPUT: true; the input reads as it did. -/
def fnExpandTwiceSpec : ChangeSpec := { name := "fnExpandTwice", fn := fun _ => fun
  | [d1, d2, d3, d4] => { results := [.lit (.bool true)], args := [d1, d2, d3, d4] }
  | _ => none }
def fnExpandTwiceRow : OpenClaim := { program := "ytdciccgeabdmcaa", sum := "602b6f1ba79d291fd9d94059118c1527a5e9a2d706fced3274e4b8e332bca42f", func := "loop.example/lib-g03422/laws.FnExpandTwice", spec := "fnExpandTwice", unfollowed := true, recurses := true, apart := false }
def FnExpandTwiceSaid : Prop := fnExpandTwiceRow.holds Try.pinned (OpenSpec.ofChange fnExpandTwiceSpec)

/-- ITS FALSE NEIGHBOUR: 'it returns false'. Refute it at one input. -/
def fnExpandTwiceWrong : ChangeSpec := { name := "fnExpandTwice", fn := fun _ => fun
  | [d1, d2, d3, d4] => { results := [.lit (.bool false)], args := [d1, d2, d3, d4] }
  | _ => none }
def FnExpandTwiceWrongFalsely : Prop := fnExpandTwiceRow.holds Try.pinned (OpenSpec.ofChange fnExpandTwiceWrong)

/-- 'laws.FnExpandWrong': WHATEVER THE INPUT: true; the input reads as it did. -/
def fnExpandWrongSpec : ChangeSpec := { name := "fnExpandWrong", fn := fun _ => fun
  | [d1, d2, d3] => { results := [.lit (.bool true)], args := [d1, d2, d3] }
  | _ => none }
def fnExpandWrongRow : OpenClaim := { program := "ytdciccgeabdmcaa", sum := "602b6f1ba79d291fd9d94059118c1527a5e9a2d706fced3274e4b8e332bca42f", func := "loop.example/lib-g03422/laws.FnExpandWrong", spec := "fnExpandWrong", unfollowed := true, recurses := true, apart := false }
def FnExpandWrongSaid : Prop := fnExpandWrongRow.holds Try.pinned (OpenSpec.ofChange fnExpandWrongSpec)

/-- ITS FALSE NEIGHBOUR: 'it returns false'. Refute it at one input. -/
def fnExpandWrongWrong : ChangeSpec := { name := "fnExpandWrong", fn := fun _ => fun
  | [d1, d2, d3] => { results := [.lit (.bool false)], args := [d1, d2, d3] }
  | _ => none }
def FnExpandWrongWrongFalsely : Prop := fnExpandWrongRow.holds Try.pinned (OpenSpec.ofChange fnExpandWrongWrong)

/-- 'laws.FnExpandNone': WHATEVER THE INPUT: true; the input reads as it did. -/
def fnExpandNoneSpec : ChangeSpec := { name := "fnExpandNone", fn := fun _ => fun
  | [d] => { results := [.lit (.bool true)], args := [d] }
  | _ => none }
def fnExpandNoneRow : OpenClaim := { program := "ytdciccgeabdmcaa", sum := "602b6f1ba79d291fd9d94059118c1527a5e9a2d706fced3274e4b8e332bca42f", func := "loop.example/lib-g03422/laws.FnExpandNone", spec := "fnExpandNone", unfollowed := true, recurses := true, apart := false }
def FnExpandNoneSaid : Prop := fnExpandNoneRow.holds Try.pinned (OpenSpec.ofChange fnExpandNoneSpec)

/-- ITS FALSE NEIGHBOUR: 'it returns false'. Refute it at one input. -/
def fnExpandNoneWrong : ChangeSpec := { name := "fnExpandNone", fn := fun _ => fun
  | [d] => { results := [.lit (.bool false)], args := [d] }
  | _ => none }
def FnExpandNoneWrongFalsely : Prop := fnExpandNoneRow.holds Try.pinned (OpenSpec.ofChange fnExpandNoneWrong)

/- THE SECOND FORM. 'bulk': how many values and letters a reading holds, each counted each time it is reached (what is shared counts as often as it is met; a slice's spare places count too). A statement '..UptoSaid' is the law's where the arguments, and the package variables that the reading takes, are together of bulk at most 1048576: NARROWER than '..Said'. Prove '..Said' where nothing that the law and all that it calls make is longer than what came in: it says more and counts as full. Else prove '..UptoSaid'. A law counts once. -/
mutual
def uptoBulk {H : Type} : DataW H → Nat
  | .lit (.string bytes) => bytes.length + 1
  | .lit _ => 1
  | .nil => 1
  | .ptr d => uptoBulk d + 1
  | .slice elems spare => uptoBulkAll elems + uptoBulkAll spare + 1
  | .agg parts => uptoBulkAll parts + 1
  | .iface _ d => uptoBulk d + 1
  | .map entries => uptoBulkEntries entries + 1
  | .held _ => 1
def uptoBulkAll {H : Type} : List (DataW H) → Nat
  | [] => 0
  | d :: r => uptoBulk d + uptoBulkAll r
def uptoBulkEntries {H : Type} : List (Lit × DataW H) → Nat
  | [] => 0
  | x :: r => uptoBulkEntry x + uptoBulkEntries r
def uptoBulkEntry {H : Type} : Lit × DataW H → Nat
  | (.string bytes, d) => bytes.length + uptoBulk d + 1
  | (_, d) => uptoBulk d + 1
 end
def uptoSmall : (H : Type) → List (DataW H) → Bool := fun _ ds => decide (uptoBulkAll ds ≤ 1048576)
def OpenSpec.upto (s : _root_.Go.ChangeSpec) : _root_.Go.OpenSpec := { _root_.Go.OpenSpec.ofChange s with cond := some uptoSmall }

/-- 'laws.FnExactWithout', WHERE WHAT IT READS IS OF BULK AT MOST 1048576: true; the input reads as it did. -/
def fnExactWithoutUptoRow : OpenClaim := { program := "ytdciccgeabdmcaa", sum := "602b6f1ba79d291fd9d94059118c1527a5e9a2d706fced3274e4b8e332bca42f", func := "loop.example/lib-g03422/laws.FnExactWithout", spec := "fnExactWithout", unfollowed := true, recurses := true, apart := false, narrowed := true }
def FnExactWithoutUptoSaid : Prop := fnExactWithoutUptoRow.holds Try.pinned (OpenSpec.upto fnExactWithoutSpec)

/-- 'laws.FnExpandAny', WHERE WHAT IT READS IS OF BULK AT MOST 1048576: true; the input reads as it did. -/
def fnExpandAnyUptoRow : OpenClaim := { program := "ytdciccgeabdmcaa", sum := "602b6f1ba79d291fd9d94059118c1527a5e9a2d706fced3274e4b8e332bca42f", func := "loop.example/lib-g03422/laws.FnExpandAny", spec := "fnExpandAny", unfollowed := true, recurses := true, apart := false, narrowed := true }
def FnExpandAnyUptoSaid : Prop := fnExpandAnyUptoRow.holds Try.pinned (OpenSpec.upto fnExpandAnySpec)

/-- 'laws.FnExpandBare', WHERE WHAT IT READS IS OF BULK AT MOST 1048576: true; the input reads as it did. -/
def fnExpandBareUptoRow : OpenClaim := { program := "ytdciccgeabdmcaa", sum := "602b6f1ba79d291fd9d94059118c1527a5e9a2d706fced3274e4b8e332bca42f", func := "loop.example/lib-g03422/laws.FnExpandBare", spec := "fnExpandBare", unfollowed := true, recurses := true, apart := false, narrowed := true }
def FnExpandBareUptoSaid : Prop := fnExpandBareUptoRow.holds Try.pinned (OpenSpec.upto fnExpandBareSpec)

/-- 'laws.FnExpandBraces', WHERE WHAT IT READS IS OF BULK AT MOST 1048576: true; the input reads as it did. -/
def fnExpandBracesUptoRow : OpenClaim := { program := "ytdciccgeabdmcaa", sum := "602b6f1ba79d291fd9d94059118c1527a5e9a2d706fced3274e4b8e332bca42f", func := "loop.example/lib-g03422/laws.FnExpandBraces", spec := "fnExpandBraces", unfollowed := true, recurses := true, apart := false, narrowed := true }
def FnExpandBracesUptoSaid : Prop := fnExpandBracesUptoRow.holds Try.pinned (OpenSpec.upto fnExpandBracesSpec)

/-- 'laws.FnExpandIs', WHERE WHAT IT READS IS OF BULK AT MOST 1048576: true; the input reads as it did. -/
def fnExpandIsUptoRow : OpenClaim := { program := "ytdciccgeabdmcaa", sum := "602b6f1ba79d291fd9d94059118c1527a5e9a2d706fced3274e4b8e332bca42f", func := "loop.example/lib-g03422/laws.FnExpandIs", spec := "fnExpandIs", unfollowed := true, recurses := true, apart := false, narrowed := true }
def FnExpandIsUptoSaid : Prop := fnExpandIsUptoRow.holds Try.pinned (OpenSpec.upto fnExpandIsSpec)

/-- 'laws.FnExpandParts', WHERE WHAT IT READS IS OF BULK AT MOST 1048576: true; the input reads as it did. -/
def fnExpandPartsUptoRow : OpenClaim := { program := "ytdciccgeabdmcaa", sum := "602b6f1ba79d291fd9d94059118c1527a5e9a2d706fced3274e4b8e332bca42f", func := "loop.example/lib-g03422/laws.FnExpandParts", spec := "fnExpandParts", unfollowed := true, recurses := true, apart := false, narrowed := true }
def FnExpandPartsUptoSaid : Prop := fnExpandPartsUptoRow.holds Try.pinned (OpenSpec.upto fnExpandPartsSpec)

/-- 'laws.FnExpandPlain', WHERE WHAT IT READS IS OF BULK AT MOST 1048576: true; the input reads as it did. -/
def fnExpandPlainUptoRow : OpenClaim := { program := "ytdciccgeabdmcaa", sum := "602b6f1ba79d291fd9d94059118c1527a5e9a2d706fced3274e4b8e332bca42f", func := "loop.example/lib-g03422/laws.FnExpandPlain", spec := "fnExpandPlain", unfollowed := true, recurses := true, apart := false, narrowed := true }
def FnExpandPlainUptoSaid : Prop := fnExpandPlainUptoRow.holds Try.pinned (OpenSpec.upto fnExpandPlainSpec)

/-- 'laws.FnExpandRoads', WHERE WHAT IT READS IS OF BULK AT MOST 1048576: true; the input reads as it did. -/
def fnExpandRoadsUptoRow : OpenClaim := { program := "ytdciccgeabdmcaa", sum := "602b6f1ba79d291fd9d94059118c1527a5e9a2d706fced3274e4b8e332bca42f", func := "loop.example/lib-g03422/laws.FnExpandRoads", spec := "fnExpandRoads", unfollowed := true, recurses := true, apart := false, narrowed := true }
def FnExpandRoadsUptoSaid : Prop := fnExpandRoadsUptoRow.holds Try.pinned (OpenSpec.upto fnExpandRoadsSpec)

/-- 'laws.FnExpandRows', WHERE WHAT IT READS IS OF BULK AT MOST 1048576: true; the input reads as it did. -/
def fnExpandRowsUptoRow : OpenClaim := { program := "ytdciccgeabdmcaa", sum := "602b6f1ba79d291fd9d94059118c1527a5e9a2d706fced3274e4b8e332bca42f", func := "loop.example/lib-g03422/laws.FnExpandRows", spec := "fnExpandRows", unfollowed := true, recurses := true, apart := false, narrowed := true }
def FnExpandRowsUptoSaid : Prop := fnExpandRowsUptoRow.holds Try.pinned (OpenSpec.upto fnExpandRowsSpec)

/-- 'laws.FnExpandSelf', WHERE WHAT IT READS IS OF BULK AT MOST 1048576: true; the input reads as it did. -/
def fnExpandSelfUptoRow : OpenClaim := { program := "ytdciccgeabdmcaa", sum := "602b6f1ba79d291fd9d94059118c1527a5e9a2d706fced3274e4b8e332bca42f", func := "loop.example/lib-g03422/laws.FnExpandSelf", spec := "fnExpandSelf", unfollowed := true, recurses := true, apart := false, narrowed := true }
def FnExpandSelfUptoSaid : Prop := fnExpandSelfUptoRow.holds Try.pinned (OpenSpec.upto fnExpandSelfSpec)

/-- 'laws.FnExpandSign', WHERE WHAT IT READS IS OF BULK AT MOST 1048576: true; the input reads as it did. -/
def fnExpandSignUptoRow : OpenClaim := { program := "ytdciccgeabdmcaa", sum := "602b6f1ba79d291fd9d94059118c1527a5e9a2d706fced3274e4b8e332bca42f", func := "loop.example/lib-g03422/laws.FnExpandSign", spec := "fnExpandSign", unfollowed := true, recurses := true, apart := false, narrowed := true }
def FnExpandSignUptoSaid : Prop := fnExpandSignUptoRow.holds Try.pinned (OpenSpec.upto fnExpandSignSpec)

/-- 'laws.FnExpandSum', WHERE WHAT IT READS IS OF BULK AT MOST 1048576: true; the input reads as it did. -/
def fnExpandSumUptoRow : OpenClaim := { program := "ytdciccgeabdmcaa", sum := "602b6f1ba79d291fd9d94059118c1527a5e9a2d706fced3274e4b8e332bca42f", func := "loop.example/lib-g03422/laws.FnExpandSum", spec := "fnExpandSum", unfollowed := true, recurses := true, apart := false, narrowed := true }
def FnExpandSumUptoSaid : Prop := fnExpandSumUptoRow.holds Try.pinned (OpenSpec.upto fnExpandSumSpec)

/-- 'laws.FnExpandTwice', WHERE WHAT IT READS IS OF BULK AT MOST 1048576: true; the input reads as it did. -/
def fnExpandTwiceUptoRow : OpenClaim := { program := "ytdciccgeabdmcaa", sum := "602b6f1ba79d291fd9d94059118c1527a5e9a2d706fced3274e4b8e332bca42f", func := "loop.example/lib-g03422/laws.FnExpandTwice", spec := "fnExpandTwice", unfollowed := true, recurses := true, apart := false, narrowed := true }
def FnExpandTwiceUptoSaid : Prop := fnExpandTwiceUptoRow.holds Try.pinned (OpenSpec.upto fnExpandTwiceSpec)

/-- 'laws.FnExpandWrong', WHERE WHAT IT READS IS OF BULK AT MOST 1048576: true; the input reads as it did. -/
def fnExpandWrongUptoRow : OpenClaim := { program := "ytdciccgeabdmcaa", sum := "602b6f1ba79d291fd9d94059118c1527a5e9a2d706fced3274e4b8e332bca42f", func := "loop.example/lib-g03422/laws.FnExpandWrong", spec := "fnExpandWrong", unfollowed := true, recurses := true, apart := false, narrowed := true }
def FnExpandWrongUptoSaid : Prop := fnExpandWrongUptoRow.holds Try.pinned (OpenSpec.upto fnExpandWrongSpec)

/-- 'laws.FnExpandNone', WHERE WHAT IT READS IS OF BULK AT MOST 1048576: true; the input reads as it did. -/
def fnExpandNoneUptoRow : OpenClaim := { program := "ytdciccgeabdmcaa", sum := "602b6f1ba79d291fd9d94059118c1527a5e9a2d706fced3274e4b8e332bca42f", func := "loop.example/lib-g03422/laws.FnExpandNone", spec := "fnExpandNone", unfollowed := true, recurses := true, apart := false, narrowed := true }
def FnExpandNoneUptoSaid : Prop := fnExpandNoneUptoRow.holds Try.pinned (OpenSpec.upto fnExpandNoneSpec)

end Rows
end Go.Proofs.Ytdciccgeabdmcaa
