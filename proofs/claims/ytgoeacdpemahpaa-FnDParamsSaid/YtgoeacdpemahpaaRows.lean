/-
  No cell of these rows narrows 'for every input' (looked for: loops, veiled, ifaces, maps, wideKeys, modest, calm, conditions, laid).
  DERIVED. THE GIVEN ROWS OF THIS SEAT. 4 by the template 'for every input the law returns true; each argument reads behind the call as it read before'; 0 by the template 'total and deterministic' (their statements: YtgoeacdpemahpaaTotals.lean).
  GIVEN WITH THE SEED: the statements are not yours to turn. If you find one false, say at which input.
  Laid BY PROGRAM, IN A SANDBOX (cutbox-rows.mjs): the forced cells as the released guide's own fill.sh prints them over the translation 81703b519704babd… (all of the seat's roots in one cut). By AI agents, Wed Nov 11 2026. No macro, syntax, notation, axiom, sorry.
-/
import Derived.Test.YtgoeacdpemahpaaChecked
import GoSem.Claim
import GoSem.ClaimJoined
import GoSem.ClaimMapViews
import Derived.JoinedTies
import Derived.KernelRfl
namespace Go.Proofs.Ytgoeacdpemahpaa
/- THE CELL 'sum', in the pinned program and in every row, IS THE sha256 OF THE DUMP (.gsa) THAT YtgoeacdpemahpaaProg.lean LOADS. Nothing in Lean hashes anything: it is a label: what it is worth is what the hold of that sum in a sandbox is worth. -/
noncomputable def Try.pinned : Pinned := { name := "ytgoeacdpemahpaa", sum := "81703b519704babd3601e8f40878bee0c52d552b730f402e434ad48ffc2e696e", checked := Try.checked }
namespace Rows
def none {H : Type} : Left H := { results := [], args := [] }

/-- 'laws.FnDCanonAgain': WHATEVER THE INPUT: true; the input reads as it did. -/
def fnDCanonAgainSpec : ChangeSpec := { name := "fnDCanonAgain", fn := fun _ => fun
  | [d1, d2, d3] => { results := [.lit (.bool true)], args := [d1, d2, d3] }
  | _ => none }
def fnDCanonAgainRow : OpenClaim := { program := "ytgoeacdpemahpaa", sum := "81703b519704babd3601e8f40878bee0c52d552b730f402e434ad48ffc2e696e", func := "given.example/pub-waxseal/laws.FnDCanonAgain", spec := "fnDCanonAgain", unfollowed := true, recurses := true, apart := false }
def FnDCanonAgainSaid : Prop := fnDCanonAgainRow.holds Try.pinned (OpenSpec.ofChange fnDCanonAgainSpec)

/-- ITS FALSE NEIGHBOUR: 'it returns false'. Refute it at one input. -/
def fnDCanonAgainWrong : ChangeSpec := { name := "fnDCanonAgain", fn := fun _ => fun
  | [d1, d2, d3] => { results := [.lit (.bool false)], args := [d1, d2, d3] }
  | _ => none }
def FnDCanonAgainWrongFalsely : Prop := fnDCanonAgainRow.holds Try.pinned (OpenSpec.ofChange fnDCanonAgainWrong)

/-- 'laws.FnDCanonFields': WHATEVER THE INPUT: true; the input reads as it did. -/
def fnDCanonFieldsSpec : ChangeSpec := { name := "fnDCanonFields", fn := fun _ => fun
  | [d1, d2] => { results := [.lit (.bool true)], args := [d1, d2] }
  | _ => none }
def fnDCanonFieldsRow : OpenClaim := { program := "ytgoeacdpemahpaa", sum := "81703b519704babd3601e8f40878bee0c52d552b730f402e434ad48ffc2e696e", func := "given.example/pub-waxseal/laws.FnDCanonFields", spec := "fnDCanonFields", unfollowed := true, recurses := true, apart := false }
def FnDCanonFieldsSaid : Prop := fnDCanonFieldsRow.holds Try.pinned (OpenSpec.ofChange fnDCanonFieldsSpec)

/-- ITS FALSE NEIGHBOUR: 'it returns false'. Refute it at one input. -/
def fnDCanonFieldsWrong : ChangeSpec := { name := "fnDCanonFields", fn := fun _ => fun
  | [d1, d2] => { results := [.lit (.bool false)], args := [d1, d2] }
  | _ => none }
def FnDCanonFieldsWrongFalsely : Prop := fnDCanonFieldsRow.holds Try.pinned (OpenSpec.ofChange fnDCanonFieldsWrong)

/-- 'laws.FnDPicks': WHATEVER THE INPUT: true; the input reads as it did. -/
def fnDPicksSpec : ChangeSpec := { name := "fnDPicks", fn := fun _ => fun
  | [d1, d2] => { results := [.lit (.bool true)], args := [d1, d2] }
  | _ => none }
def fnDPicksRow : OpenClaim := { program := "ytgoeacdpemahpaa", sum := "81703b519704babd3601e8f40878bee0c52d552b730f402e434ad48ffc2e696e", func := "given.example/pub-waxseal/laws.FnDPicks", spec := "fnDPicks", unfollowed := true, recurses := true, apart := false }
def FnDPicksSaid : Prop := fnDPicksRow.holds Try.pinned (OpenSpec.ofChange fnDPicksSpec)

/-- ITS FALSE NEIGHBOUR: 'it returns false'. Refute it at one input. -/
def fnDPicksWrong : ChangeSpec := { name := "fnDPicks", fn := fun _ => fun
  | [d1, d2] => { results := [.lit (.bool false)], args := [d1, d2] }
  | _ => none }
def FnDPicksWrongFalsely : Prop := fnDPicksRow.holds Try.pinned (OpenSpec.ofChange fnDPicksWrong)

/-- 'laws.FnDParams': WHATEVER THE INPUT: true; the input reads as it did. -/
def fnDParamsSpec : ChangeSpec := { name := "fnDParams", fn := fun _ => fun
  | [d] => { results := [.lit (.bool true)], args := [d] }
  | _ => none }
def fnDParamsRow : OpenClaim := { program := "ytgoeacdpemahpaa", sum := "81703b519704babd3601e8f40878bee0c52d552b730f402e434ad48ffc2e696e", func := "given.example/pub-waxseal/laws.FnDParams", spec := "fnDParams", unfollowed := true, recurses := true, apart := false }
def FnDParamsSaid : Prop := fnDParamsRow.holds Try.pinned (OpenSpec.ofChange fnDParamsSpec)

/-- ITS FALSE NEIGHBOUR: 'it returns false'. Refute it at one input. -/
def fnDParamsWrong : ChangeSpec := { name := "fnDParams", fn := fun _ => fun
  | [d] => { results := [.lit (.bool false)], args := [d] }
  | _ => none }
def FnDParamsWrongFalsely : Prop := fnDParamsRow.holds Try.pinned (OpenSpec.ofChange fnDParamsWrong)

/- THE SECOND FORM. 'bulk': how many values and letters a reading holds, each counted each time it is reached (what is shared counts as often as it is met; a slice's spare places count too). A statement '..UptoSaid' is the law's where the arguments, and the package variables that the reading takes, are together of bulk at most 1048576: NARROWER than '..Said'. Prove '..Said' where nothing that the law and all that it calls make is longer than what came in: it says more and counts as full. Else prove '..UptoSaid'. A law counts once. -/
mutual
def uptoBulk {H : Type} : DataW H → Nat
  | .lit (.string bytes) => bytes.length + 1
  | .lit _ => 1
  | .nil => 1
  | .ptr d => uptoBulk d + 1
  | .slice elems spare => uptoBulkAll elems + uptoBulkAll spare + 1
  | .agg parts => uptoBulkAll parts + 1
  | .iface _ d => uptoBulk d + 1
  | .map entries => uptoBulkEntries entries + 1
  | .held _ => 1
def uptoBulkAll {H : Type} : List (DataW H) → Nat
  | [] => 0
  | d :: r => uptoBulk d + uptoBulkAll r
def uptoBulkEntries {H : Type} : List (Lit × DataW H) → Nat
  | [] => 0
  | x :: r => uptoBulkEntry x + uptoBulkEntries r
def uptoBulkEntry {H : Type} : Lit × DataW H → Nat
  | (.string bytes, d) => bytes.length + uptoBulk d + 1
  | (_, d) => uptoBulk d + 1
 end
def uptoSmall : (H : Type) → List (DataW H) → Bool := fun _ ds => decide (uptoBulkAll ds ≤ 1048576)
def OpenSpec.upto (s : _root_.Go.ChangeSpec) : _root_.Go.OpenSpec := { _root_.Go.OpenSpec.ofChange s with cond := some uptoSmall }

/-- 'laws.FnDCanonAgain', WHERE WHAT IT READS IS OF BULK AT MOST 1048576: true; the input reads as it did. -/
def fnDCanonAgainUptoRow : OpenClaim := { program := "ytgoeacdpemahpaa", sum := "81703b519704babd3601e8f40878bee0c52d552b730f402e434ad48ffc2e696e", func := "given.example/pub-waxseal/laws.FnDCanonAgain", spec := "fnDCanonAgain", unfollowed := true, recurses := true, apart := false, narrowed := true }
def FnDCanonAgainUptoSaid : Prop := fnDCanonAgainUptoRow.holds Try.pinned (OpenSpec.upto fnDCanonAgainSpec)

/-- 'laws.FnDCanonFields', WHERE WHAT IT READS IS OF BULK AT MOST 1048576: true; the input reads as it did. -/
def fnDCanonFieldsUptoRow : OpenClaim := { program := "ytgoeacdpemahpaa", sum := "81703b519704babd3601e8f40878bee0c52d552b730f402e434ad48ffc2e696e", func := "given.example/pub-waxseal/laws.FnDCanonFields", spec := "fnDCanonFields", unfollowed := true, recurses := true, apart := false, narrowed := true }
def FnDCanonFieldsUptoSaid : Prop := fnDCanonFieldsUptoRow.holds Try.pinned (OpenSpec.upto fnDCanonFieldsSpec)

/-- 'laws.FnDPicks', WHERE WHAT IT READS IS OF BULK AT MOST 1048576: true; the input reads as it did. -/
def fnDPicksUptoRow : OpenClaim := { program := "ytgoeacdpemahpaa", sum := "81703b519704babd3601e8f40878bee0c52d552b730f402e434ad48ffc2e696e", func := "given.example/pub-waxseal/laws.FnDPicks", spec := "fnDPicks", unfollowed := true, recurses := true, apart := false, narrowed := true }
def FnDPicksUptoSaid : Prop := fnDPicksUptoRow.holds Try.pinned (OpenSpec.upto fnDPicksSpec)

/-- 'laws.FnDParams', WHERE WHAT IT READS IS OF BULK AT MOST 1048576: true; the input reads as it did. -/
def fnDParamsUptoRow : OpenClaim := { program := "ytgoeacdpemahpaa", sum := "81703b519704babd3601e8f40878bee0c52d552b730f402e434ad48ffc2e696e", func := "given.example/pub-waxseal/laws.FnDParams", spec := "fnDParams", unfollowed := true, recurses := true, apart := false, narrowed := true }
def FnDParamsUptoSaid : Prop := fnDParamsUptoRow.holds Try.pinned (OpenSpec.upto fnDParamsSpec)

end Rows
end Go.Proofs.Ytgoeacdpemahpaa
