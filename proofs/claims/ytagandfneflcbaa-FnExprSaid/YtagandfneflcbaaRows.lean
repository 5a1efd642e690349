/-
  NARROWER THAN 'FOR EVERY INPUT', by the rows' own cells (each row's printed sentence says how): FnILike: loops · FnLike: loops · FnNotILike: loops · FnNotLike: loops · FnGt: loops · FnGtOrEq: loops · FnLt: loops · FnLtOrEq: loops · FnEq: loops · FnNotEq: loops · FnExpr: loops.
  DERIVED. THE GIVEN ROWS OF THIS SEAT. 11 by the template 'for every input the law returns true; each argument reads behind the call as it read before'; 0 by the template 'total and deterministic' (their statements: YtagandfneflcbaaTotals.lean).
  GIVEN WITH THE SEED: the statements are not yours to turn. If you find one false, say at which input.
  Laid BY PROGRAM, IN A SANDBOX (cutbox-rows.mjs): the forced cells as the released guide's own fill.sh prints them over the translation 1db7565c87153c84… (all of the seat's roots in one cut). By AI agents, Wed Nov 11 2026. No macro, syntax, notation, axiom, sorry.
-/
import Derived.Test.YtagandfneflcbaaChecked
import GoSem.Claim
import GoSem.ClaimJoined
import GoSem.ClaimMapViews
import Derived.JoinedTies
import Derived.KernelRfl
namespace Go.Proofs.Ytagandfneflcbaa
/- THE CELL 'sum', in the pinned program and in every row, IS THE sha256 OF THE DUMP (.gsa) THAT YtagandfneflcbaaProg.lean LOADS. Nothing in Lean hashes anything: it is a label: what it is worth is what the hold of that sum in a sandbox is worth. -/
noncomputable def Try.pinned : Pinned := { name := "ytagandfneflcbaa", sum := "1db7565c87153c845bd52d50e04a22a6981cb199e24f5029b06c0ea9650cc500", checked := Try.checked }
namespace Rows
def none {H : Type} : Left H := { results := [], args := [] }

/-- 'laws.FnILike': WHATEVER THE INPUT: true; the input reads as it did. -/
def fnILikeSpec : ChangeSpec := { name := "fnILike", fn := fun _ => fun
  | [d1, d2] => { results := [.lit (.bool true)], args := [d1, d2] }
  | _ => none }
def fnILikeRow : OpenClaim := { program := "ytagandfneflcbaa", sum := "1db7565c87153c845bd52d50e04a22a6981cb199e24f5029b06c0ea9650cc500", func := "given.example/pub-conveyance/laws.FnILike", spec := "fnILike", inPlace := ["internal/abi.NoEscape", "internal/bytealg.MakeNoZero"], recurses := true, loops := true, apart := false }
def FnILikeSaid : Prop := fnILikeRow.holds Try.pinned (OpenSpec.ofChange fnILikeSpec)

/-- ITS FALSE NEIGHBOUR: 'it returns false'. Refute it at one input. -/
def fnILikeWrong : ChangeSpec := { name := "fnILike", fn := fun _ => fun
  | [d1, d2] => { results := [.lit (.bool false)], args := [d1, d2] }
  | _ => none }
def FnILikeWrongFalsely : Prop := fnILikeRow.holds Try.pinned (OpenSpec.ofChange fnILikeWrong)

/-- 'laws.FnLike': WHATEVER THE INPUT: true; the input reads as it did. -/
def fnLikeSpec : ChangeSpec := { name := "fnLike", fn := fun _ => fun
  | [d1, d2] => { results := [.lit (.bool true)], args := [d1, d2] }
  | _ => none }
def fnLikeRow : OpenClaim := { program := "ytagandfneflcbaa", sum := "1db7565c87153c845bd52d50e04a22a6981cb199e24f5029b06c0ea9650cc500", func := "given.example/pub-conveyance/laws.FnLike", spec := "fnLike", inPlace := ["internal/abi.NoEscape", "internal/bytealg.MakeNoZero"], recurses := true, loops := true, apart := false }
def FnLikeSaid : Prop := fnLikeRow.holds Try.pinned (OpenSpec.ofChange fnLikeSpec)

/-- ITS FALSE NEIGHBOUR: 'it returns false'. Refute it at one input. -/
def fnLikeWrong : ChangeSpec := { name := "fnLike", fn := fun _ => fun
  | [d1, d2] => { results := [.lit (.bool false)], args := [d1, d2] }
  | _ => none }
def FnLikeWrongFalsely : Prop := fnLikeRow.holds Try.pinned (OpenSpec.ofChange fnLikeWrong)

/-- 'laws.FnNotILike': WHATEVER THE INPUT: true; the input reads as it did. -/
def fnNotILikeSpec : ChangeSpec := { name := "fnNotILike", fn := fun _ => fun
  | [d1, d2] => { results := [.lit (.bool true)], args := [d1, d2] }
  | _ => none }
def fnNotILikeRow : OpenClaim := { program := "ytagandfneflcbaa", sum := "1db7565c87153c845bd52d50e04a22a6981cb199e24f5029b06c0ea9650cc500", func := "given.example/pub-conveyance/laws.FnNotILike", spec := "fnNotILike", inPlace := ["internal/abi.NoEscape", "internal/bytealg.MakeNoZero"], recurses := true, loops := true, apart := false }
def FnNotILikeSaid : Prop := fnNotILikeRow.holds Try.pinned (OpenSpec.ofChange fnNotILikeSpec)

/-- ITS FALSE NEIGHBOUR: 'it returns false'. Refute it at one input. -/
def fnNotILikeWrong : ChangeSpec := { name := "fnNotILike", fn := fun _ => fun
  | [d1, d2] => { results := [.lit (.bool false)], args := [d1, d2] }
  | _ => none }
def FnNotILikeWrongFalsely : Prop := fnNotILikeRow.holds Try.pinned (OpenSpec.ofChange fnNotILikeWrong)

/-- 'laws.FnNotLike': WHATEVER THE INPUT: true; the input reads as it did. -/
def fnNotLikeSpec : ChangeSpec := { name := "fnNotLike", fn := fun _ => fun
  | [d1, d2] => { results := [.lit (.bool true)], args := [d1, d2] }
  | _ => none }
def fnNotLikeRow : OpenClaim := { program := "ytagandfneflcbaa", sum := "1db7565c87153c845bd52d50e04a22a6981cb199e24f5029b06c0ea9650cc500", func := "given.example/pub-conveyance/laws.FnNotLike", spec := "fnNotLike", inPlace := ["internal/abi.NoEscape", "internal/bytealg.MakeNoZero"], recurses := true, loops := true, apart := false }
def FnNotLikeSaid : Prop := fnNotLikeRow.holds Try.pinned (OpenSpec.ofChange fnNotLikeSpec)

/-- ITS FALSE NEIGHBOUR: 'it returns false'. Refute it at one input. -/
def fnNotLikeWrong : ChangeSpec := { name := "fnNotLike", fn := fun _ => fun
  | [d1, d2] => { results := [.lit (.bool false)], args := [d1, d2] }
  | _ => none }
def FnNotLikeWrongFalsely : Prop := fnNotLikeRow.holds Try.pinned (OpenSpec.ofChange fnNotLikeWrong)

/-- 'laws.FnGt': WHATEVER THE INPUT: true; the input reads as it did. -/
def fnGtSpec : ChangeSpec := { name := "fnGt", fn := fun _ => fun
  | [d1, d2] => { results := [.lit (.bool true)], args := [d1, d2] }
  | _ => none }
def fnGtRow : OpenClaim := { program := "ytagandfneflcbaa", sum := "1db7565c87153c845bd52d50e04a22a6981cb199e24f5029b06c0ea9650cc500", func := "given.example/pub-conveyance/laws.FnGt", spec := "fnGt", inPlace := ["internal/abi.NoEscape", "internal/bytealg.MakeNoZero"], recurses := true, loops := true, apart := false }
def FnGtSaid : Prop := fnGtRow.holds Try.pinned (OpenSpec.ofChange fnGtSpec)

/-- ITS FALSE NEIGHBOUR: 'it returns false'. Refute it at one input. -/
def fnGtWrong : ChangeSpec := { name := "fnGt", fn := fun _ => fun
  | [d1, d2] => { results := [.lit (.bool false)], args := [d1, d2] }
  | _ => none }
def FnGtWrongFalsely : Prop := fnGtRow.holds Try.pinned (OpenSpec.ofChange fnGtWrong)

/-- 'laws.FnGtOrEq': WHATEVER THE INPUT: true; the input reads as it did. -/
def fnGtOrEqSpec : ChangeSpec := { name := "fnGtOrEq", fn := fun _ => fun
  | [d1, d2] => { results := [.lit (.bool true)], args := [d1, d2] }
  | _ => none }
def fnGtOrEqRow : OpenClaim := { program := "ytagandfneflcbaa", sum := "1db7565c87153c845bd52d50e04a22a6981cb199e24f5029b06c0ea9650cc500", func := "given.example/pub-conveyance/laws.FnGtOrEq", spec := "fnGtOrEq", inPlace := ["internal/abi.NoEscape", "internal/bytealg.MakeNoZero"], recurses := true, loops := true, apart := false }
def FnGtOrEqSaid : Prop := fnGtOrEqRow.holds Try.pinned (OpenSpec.ofChange fnGtOrEqSpec)

/-- ITS FALSE NEIGHBOUR: 'it returns false'. Refute it at one input. -/
def fnGtOrEqWrong : ChangeSpec := { name := "fnGtOrEq", fn := fun _ => fun
  | [d1, d2] => { results := [.lit (.bool false)], args := [d1, d2] }
  | _ => none }
def FnGtOrEqWrongFalsely : Prop := fnGtOrEqRow.holds Try.pinned (OpenSpec.ofChange fnGtOrEqWrong)

/-- 'laws.FnLt': WHATEVER THE INPUT: true; the input reads as it did. -/
def fnLtSpec : ChangeSpec := { name := "fnLt", fn := fun _ => fun
  | [d1, d2] => { results := [.lit (.bool true)], args := [d1, d2] }
  | _ => none }
def fnLtRow : OpenClaim := { program := "ytagandfneflcbaa", sum := "1db7565c87153c845bd52d50e04a22a6981cb199e24f5029b06c0ea9650cc500", func := "given.example/pub-conveyance/laws.FnLt", spec := "fnLt", inPlace := ["internal/abi.NoEscape", "internal/bytealg.MakeNoZero"], recurses := true, loops := true, apart := false }
def FnLtSaid : Prop := fnLtRow.holds Try.pinned (OpenSpec.ofChange fnLtSpec)

/-- ITS FALSE NEIGHBOUR: 'it returns false'. Refute it at one input. -/
def fnLtWrong : ChangeSpec := { name := "fnLt", fn := fun _ => fun
  | [d1, d2] => { results := [.lit (.bool false)], args := [d1, d2] }
  | _ => none }
def FnLtWrongFalsely : Prop := fnLtRow.holds Try.pinned (OpenSpec.ofChange fnLtWrong)

/-- 'laws.FnLtOrEq': WHATEVER THE INPUT: true; the input reads as it did. -/
def fnLtOrEqSpec : ChangeSpec := { name := "fnLtOrEq", fn := fun _ => fun
  | [d1, d2] => { results := [.lit (.bool true)], args := [d1, d2] }
  | _ => none }
def fnLtOrEqRow : OpenClaim := { program := "ytagandfneflcbaa", sum := "1db7565c87153c845bd52d50e04a22a6981cb199e24f5029b06c0ea9650cc500", func := "given.example/pub-conveyance/laws.FnLtOrEq", spec := "fnLtOrEq", inPlace := ["internal/abi.NoEscape", "internal/bytealg.MakeNoZero"], recurses := true, loops := true, apart := false }
def FnLtOrEqSaid : Prop := fnLtOrEqRow.holds Try.pinned (OpenSpec.ofChange fnLtOrEqSpec)

/-- ITS FALSE NEIGHBOUR: 'it returns false'. Refute it at one input. -/
def fnLtOrEqWrong : ChangeSpec := { name := "fnLtOrEq", fn := fun _ => fun
  | [d1, d2] => { results := [.lit (.bool false)], args := [d1, d2] }
  | _ => none }
def FnLtOrEqWrongFalsely : Prop := fnLtOrEqRow.holds Try.pinned (OpenSpec.ofChange fnLtOrEqWrong)

/-- 'laws.FnEq': WHATEVER THE INPUT: true; the input reads as it did. -/
def fnEqSpec : ChangeSpec := { name := "fnEq", fn := fun _ => fun
  | [d1, d2] => { results := [.lit (.bool true)], args := [d1, d2] }
  | _ => none }
def fnEqRow : OpenClaim := { program := "ytagandfneflcbaa", sum := "1db7565c87153c845bd52d50e04a22a6981cb199e24f5029b06c0ea9650cc500", func := "given.example/pub-conveyance/laws.FnEq", spec := "fnEq", inPlace := ["internal/abi.NoEscape", "internal/bytealg.MakeNoZero"], recurses := true, loops := true, apart := false }
def FnEqSaid : Prop := fnEqRow.holds Try.pinned (OpenSpec.ofChange fnEqSpec)

/-- ITS FALSE NEIGHBOUR: 'it returns false'. Refute it at one input. -/
def fnEqWrong : ChangeSpec := { name := "fnEq", fn := fun _ => fun
  | [d1, d2] => { results := [.lit (.bool false)], args := [d1, d2] }
  | _ => none }
def FnEqWrongFalsely : Prop := fnEqRow.holds Try.pinned (OpenSpec.ofChange fnEqWrong)

/-- 'laws.FnNotEq': WHATEVER THE INPUT: true; the input reads as it did. -/
def fnNotEqSpec : ChangeSpec := { name := "fnNotEq", fn := fun _ => fun
  | [d1, d2] => { results := [.lit (.bool true)], args := [d1, d2] }
  | _ => none }
def fnNotEqRow : OpenClaim := { program := "ytagandfneflcbaa", sum := "1db7565c87153c845bd52d50e04a22a6981cb199e24f5029b06c0ea9650cc500", func := "given.example/pub-conveyance/laws.FnNotEq", spec := "fnNotEq", inPlace := ["internal/abi.NoEscape", "internal/bytealg.MakeNoZero"], recurses := true, loops := true, apart := false }
def FnNotEqSaid : Prop := fnNotEqRow.holds Try.pinned (OpenSpec.ofChange fnNotEqSpec)

/-- ITS FALSE NEIGHBOUR: 'it returns false'. Refute it at one input. -/
def fnNotEqWrong : ChangeSpec := { name := "fnNotEq", fn := fun _ => fun
  | [d1, d2] => { results := [.lit (.bool false)], args := [d1, d2] }
  | _ => none }
def FnNotEqWrongFalsely : Prop := fnNotEqRow.holds Try.pinned (OpenSpec.ofChange fnNotEqWrong)

/-- 'laws.FnExpr': WHATEVER THE INPUT: true; the input reads as it did. -/
def fnExprSpec : ChangeSpec := { name := "fnExpr", fn := fun _ => fun
  | [d1, d2] => { results := [.lit (.bool true)], args := [d1, d2] }
  | _ => none }
def fnExprRow : OpenClaim := { program := "ytagandfneflcbaa", sum := "1db7565c87153c845bd52d50e04a22a6981cb199e24f5029b06c0ea9650cc500", func := "given.example/pub-conveyance/laws.FnExpr", spec := "fnExpr", unfollowed := true, recurses := true, loops := true, apart := false }
def FnExprSaid : Prop := fnExprRow.holds Try.pinned (OpenSpec.ofChange fnExprSpec)

/-- ITS FALSE NEIGHBOUR: 'it returns false'. Refute it at one input. -/
def fnExprWrong : ChangeSpec := { name := "fnExpr", fn := fun _ => fun
  | [d1, d2] => { results := [.lit (.bool false)], args := [d1, d2] }
  | _ => none }
def FnExprWrongFalsely : Prop := fnExprRow.holds Try.pinned (OpenSpec.ofChange fnExprWrong)

/- THE SECOND FORM. 'bulk': how many values and letters a reading holds, each counted each time it is reached (what is shared counts as often as it is met; a slice's spare places count too). A statement '..UptoSaid' is the law's where the arguments, and the package variables that the reading takes, are together of bulk at most 1048576: NARROWER than '..Said'. Prove '..Said' where nothing that the law and all that it calls make is longer than what came in: it says more and counts as full. Else prove '..UptoSaid'. A law counts once. -/
mutual
def uptoBulk {H : Type} : DataW H → Nat
  | .lit (.string bytes) => bytes.length + 1
  | .lit _ => 1
  | .nil => 1
  | .ptr d => uptoBulk d + 1
  | .slice elems spare => uptoBulkAll elems + uptoBulkAll spare + 1
  | .agg parts => uptoBulkAll parts + 1
  | .iface _ d => uptoBulk d + 1
  | .map entries => uptoBulkEntries entries + 1
  | .held _ => 1
def uptoBulkAll {H : Type} : List (DataW H) → Nat
  | [] => 0
  | d :: r => uptoBulk d + uptoBulkAll r
def uptoBulkEntries {H : Type} : List (Lit × DataW H) → Nat
  | [] => 0
  | x :: r => uptoBulkEntry x + uptoBulkEntries r
def uptoBulkEntry {H : Type} : Lit × DataW H → Nat
  | (.string bytes, d) => bytes.length + uptoBulk d + 1
  | (_, d) => uptoBulk d + 1
 end
def uptoSmall : (H : Type) → List (DataW H) → Bool := fun _ ds => decide (uptoBulkAll ds ≤ 1048576)
def OpenSpec.upto (s : _root_.Go.ChangeSpec) : _root_.Go.OpenSpec := { _root_.Go.OpenSpec.ofChange s with cond := some uptoSmall }

/-- 'laws.FnILike', WHERE WHAT IT READS IS OF BULK AT MOST 1048576: true; the input reads as it did. -/
def fnILikeUptoRow : OpenClaim := { program := "ytagandfneflcbaa", sum := "1db7565c87153c845bd52d50e04a22a6981cb199e24f5029b06c0ea9650cc500", func := "given.example/pub-conveyance/laws.FnILike", spec := "fnILike", inPlace := ["internal/abi.NoEscape", "internal/bytealg.MakeNoZero"], recurses := true, loops := true, apart := false, narrowed := true }
def FnILikeUptoSaid : Prop := fnILikeUptoRow.holds Try.pinned (OpenSpec.upto fnILikeSpec)

/-- 'laws.FnLike', WHERE WHAT IT READS IS OF BULK AT MOST 1048576: true; the input reads as it did. -/
def fnLikeUptoRow : OpenClaim := { program := "ytagandfneflcbaa", sum := "1db7565c87153c845bd52d50e04a22a6981cb199e24f5029b06c0ea9650cc500", func := "given.example/pub-conveyance/laws.FnLike", spec := "fnLike", inPlace := ["internal/abi.NoEscape", "internal/bytealg.MakeNoZero"], recurses := true, loops := true, apart := false, narrowed := true }
def FnLikeUptoSaid : Prop := fnLikeUptoRow.holds Try.pinned (OpenSpec.upto fnLikeSpec)

/-- 'laws.FnNotILike', WHERE WHAT IT READS IS OF BULK AT MOST 1048576: true; the input reads as it did. -/
def fnNotILikeUptoRow : OpenClaim := { program := "ytagandfneflcbaa", sum := "1db7565c87153c845bd52d50e04a22a6981cb199e24f5029b06c0ea9650cc500", func := "given.example/pub-conveyance/laws.FnNotILike", spec := "fnNotILike", inPlace := ["internal/abi.NoEscape", "internal/bytealg.MakeNoZero"], recurses := true, loops := true, apart := false, narrowed := true }
def FnNotILikeUptoSaid : Prop := fnNotILikeUptoRow.holds Try.pinned (OpenSpec.upto fnNotILikeSpec)

/-- 'laws.FnNotLike', WHERE WHAT IT READS IS OF BULK AT MOST 1048576: true; the input reads as it did. -/
def fnNotLikeUptoRow : OpenClaim := { program := "ytagandfneflcbaa", sum := "1db7565c87153c845bd52d50e04a22a6981cb199e24f5029b06c0ea9650cc500", func := "given.example/pub-conveyance/laws.FnNotLike", spec := "fnNotLike", inPlace := ["internal/abi.NoEscape", "internal/bytealg.MakeNoZero"], recurses := true, loops := true, apart := false, narrowed := true }
def FnNotLikeUptoSaid : Prop := fnNotLikeUptoRow.holds Try.pinned (OpenSpec.upto fnNotLikeSpec)

/-- 'laws.FnGt', WHERE WHAT IT READS IS OF BULK AT MOST 1048576: true; the input reads as it did. -/
def fnGtUptoRow : OpenClaim := { program := "ytagandfneflcbaa", sum := "1db7565c87153c845bd52d50e04a22a6981cb199e24f5029b06c0ea9650cc500", func := "given.example/pub-conveyance/laws.FnGt", spec := "fnGt", inPlace := ["internal/abi.NoEscape", "internal/bytealg.MakeNoZero"], recurses := true, loops := true, apart := false, narrowed := true }
def FnGtUptoSaid : Prop := fnGtUptoRow.holds Try.pinned (OpenSpec.upto fnGtSpec)

/-- 'laws.FnGtOrEq', WHERE WHAT IT READS IS OF BULK AT MOST 1048576: true; the input reads as it did. -/
def fnGtOrEqUptoRow : OpenClaim := { program := "ytagandfneflcbaa", sum := "1db7565c87153c845bd52d50e04a22a6981cb199e24f5029b06c0ea9650cc500", func := "given.example/pub-conveyance/laws.FnGtOrEq", spec := "fnGtOrEq", inPlace := ["internal/abi.NoEscape", "internal/bytealg.MakeNoZero"], recurses := true, loops := true, apart := false, narrowed := true }
def FnGtOrEqUptoSaid : Prop := fnGtOrEqUptoRow.holds Try.pinned (OpenSpec.upto fnGtOrEqSpec)

/-- 'laws.FnLt', WHERE WHAT IT READS IS OF BULK AT MOST 1048576: true; the input reads as it did. -/
def fnLtUptoRow : OpenClaim := { program := "ytagandfneflcbaa", sum := "1db7565c87153c845bd52d50e04a22a6981cb199e24f5029b06c0ea9650cc500", func := "given.example/pub-conveyance/laws.FnLt", spec := "fnLt", inPlace := ["internal/abi.NoEscape", "internal/bytealg.MakeNoZero"], recurses := true, loops := true, apart := false, narrowed := true }
def FnLtUptoSaid : Prop := fnLtUptoRow.holds Try.pinned (OpenSpec.upto fnLtSpec)

/-- 'laws.FnLtOrEq', WHERE WHAT IT READS IS OF BULK AT MOST 1048576: true; the input reads as it did. -/
def fnLtOrEqUptoRow : OpenClaim := { program := "ytagandfneflcbaa", sum := "1db7565c87153c845bd52d50e04a22a6981cb199e24f5029b06c0ea9650cc500", func := "given.example/pub-conveyance/laws.FnLtOrEq", spec := "fnLtOrEq", inPlace := ["internal/abi.NoEscape", "internal/bytealg.MakeNoZero"], recurses := true, loops := true, apart := false, narrowed := true }
def FnLtOrEqUptoSaid : Prop := fnLtOrEqUptoRow.holds Try.pinned (OpenSpec.upto fnLtOrEqSpec)

/-- 'laws.FnEq', WHERE WHAT IT READS IS OF BULK AT MOST 1048576: true; the input reads as it did. -/
def fnEqUptoRow : OpenClaim := { program := "ytagandfneflcbaa", sum := "1db7565c87153c845bd52d50e04a22a6981cb199e24f5029b06c0ea9650cc500", func := "given.example/pub-conveyance/laws.FnEq", spec := "fnEq", inPlace := ["internal/abi.NoEscape", "internal/bytealg.MakeNoZero"], recurses := true, loops := true, apart := false, narrowed := true }
def FnEqUptoSaid : Prop := fnEqUptoRow.holds Try.pinned (OpenSpec.upto fnEqSpec)

/-- 'laws.FnNotEq', WHERE WHAT IT READS IS OF BULK AT MOST 1048576: true; the input reads as it did. -/
def fnNotEqUptoRow : OpenClaim := { program := "ytagandfneflcbaa", sum := "1db7565c87153c845bd52d50e04a22a6981cb199e24f5029b06c0ea9650cc500", func := "given.example/pub-conveyance/laws.FnNotEq", spec := "fnNotEq", inPlace := ["internal/abi.NoEscape", "internal/bytealg.MakeNoZero"], recurses := true, loops := true, apart := false, narrowed := true }
def FnNotEqUptoSaid : Prop := fnNotEqUptoRow.holds Try.pinned (OpenSpec.upto fnNotEqSpec)

/-- 'laws.FnExpr', WHERE WHAT IT READS IS OF BULK AT MOST 1048576: true; the input reads as it did. -/
def fnExprUptoRow : OpenClaim := { program := "ytagandfneflcbaa", sum := "1db7565c87153c845bd52d50e04a22a6981cb199e24f5029b06c0ea9650cc500", func := "given.example/pub-conveyance/laws.FnExpr", spec := "fnExpr", unfollowed := true, recurses := true, loops := true, apart := false, narrowed := true }
def FnExprUptoSaid : Prop := fnExprUptoRow.holds Try.pinned (OpenSpec.upto fnExprSpec)

end Rows
end Go.Proofs.Ytagandfneflcbaa
