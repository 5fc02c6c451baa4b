/-
  No cell of these rows narrows 'for every input' (looked for: loops, veiled, ifaces, maps, wideKeys, modest, calm, conditions, laid).
  DERIVED. THE GIVEN ROWS OF THIS SEAT. 7 by the template 'for every input the law returns true; each argument reads behind the call as it read before'; 0 by the template 'total and deterministic' (their statements: YtpgclepiagfgfaaTotals.lean).
  GIVEN WITH THE SEED: the statements are not yours to turn. If you find one false, say at which input.
  Laid BY PROGRAM, IN A SANDBOX (cutbox-rows.mjs): the forced cells as the released guide's own fill.sh prints them over the translation eba66f695da994b9… (all of the seat's roots in one cut). By AI agents, Wed Nov 11 2026. No macro, syntax, notation, axiom, sorry.
-/
import Derived.Test.YtpgclepiagfgfaaChecked
import GoSem.Claim
import GoSem.ClaimJoined
import GoSem.ClaimMapViews
import Derived.JoinedTies
import Derived.KernelRfl
namespace Go.Proofs.Ytpgclepiagfgfaa
/- THE CELL 'sum', in the pinned program and in every row, IS THE sha256 OF THE DUMP (.gsa) THAT YtpgclepiagfgfaaProg.lean LOADS. Nothing in Lean hashes anything: it is a label: what it is worth is what the hold of that sum in a sandbox is worth. -/
noncomputable def Try.pinned : Pinned := { name := "ytpgclepiagfgfaa", sum := "eba66f695da994b99e449f03313b097736c6fd6b755e48fcd45b1a81bf5e298f", checked := Try.checked }
namespace Rows
def none {H : Type} : Left H := { results := [], args := [] }

/-- 'laws.FnCronDayOfBoth': WHATEVER THE INPUT: true; the input reads as it did. -/
def fnCronDayOfBothSpec : ChangeSpec := { name := "fnCronDayOfBoth", fn := fun _ => fun
  | [d1, d2, d3, d4] => { results := [.lit (.bool true)], args := [d1, d2, d3, d4] }
  | _ => none }
def fnCronDayOfBothRow : OpenClaim := { program := "ytpgclepiagfgfaa", sum := "eba66f695da994b99e449f03313b097736c6fd6b755e48fcd45b1a81bf5e298f", func := "pub-timebook/laws.FnCronDayOfBoth", spec := "fnCronDayOfBoth", apart := false }
def FnCronDayOfBothSaid : Prop := fnCronDayOfBothRow.holds Try.pinned (OpenSpec.ofChange fnCronDayOfBothSpec)

/-- ITS FALSE NEIGHBOUR: 'it returns false'. Refute it at one input. -/
def fnCronDayOfBothWrong : ChangeSpec := { name := "fnCronDayOfBoth", fn := fun _ => fun
  | [d1, d2, d3, d4] => { results := [.lit (.bool false)], args := [d1, d2, d3, d4] }
  | _ => none }
def FnCronDayOfBothWrongFalsely : Prop := fnCronDayOfBothRow.holds Try.pinned (OpenSpec.ofChange fnCronDayOfBothWrong)

/-- 'laws.FnCronNext': WHATEVER THE INPUT: true; the input reads as it did. -/
def fnCronNextSpec : ChangeSpec := { name := "fnCronNext", fn := fun _ => fun
  | [d1, d2] => { results := [.lit (.bool true)], args := [d1, d2] }
  | _ => none }
def fnCronNextRow : OpenClaim := { program := "ytpgclepiagfgfaa", sum := "eba66f695da994b99e449f03313b097736c6fd6b755e48fcd45b1a81bf5e298f", func := "pub-timebook/laws.FnCronNext", spec := "fnCronNext", unfollowed := true, recurses := true, apart := false }
def FnCronNextSaid : Prop := fnCronNextRow.holds Try.pinned (OpenSpec.ofChange fnCronNextSpec)

/-- ITS FALSE NEIGHBOUR: 'it returns false'. Refute it at one input. -/
def fnCronNextWrong : ChangeSpec := { name := "fnCronNext", fn := fun _ => fun
  | [d1, d2] => { results := [.lit (.bool false)], args := [d1, d2] }
  | _ => none }
def FnCronNextWrongFalsely : Prop := fnCronNextRow.holds Try.pinned (OpenSpec.ofChange fnCronNextWrong)

/-- 'laws.FnCronNextLeastTimes': WHATEVER THE INPUT: true; the input reads as it did. -/
def fnCronNextLeastTimesSpec : ChangeSpec := { name := "fnCronNextLeastTimes", fn := fun _ => fun
  | [d1, d2] => { results := [.lit (.bool true)], args := [d1, d2] }
  | _ => none }
def fnCronNextLeastTimesRow : OpenClaim := { program := "ytpgclepiagfgfaa", sum := "eba66f695da994b99e449f03313b097736c6fd6b755e48fcd45b1a81bf5e298f", func := "pub-timebook/laws.FnCronNextLeastTimes", spec := "fnCronNextLeastTimes", unfollowed := true, recurses := true, apart := false }
def FnCronNextLeastTimesSaid : Prop := fnCronNextLeastTimesRow.holds Try.pinned (OpenSpec.ofChange fnCronNextLeastTimesSpec)

/-- ITS FALSE NEIGHBOUR: 'it returns false'. Refute it at one input. -/
def fnCronNextLeastTimesWrong : ChangeSpec := { name := "fnCronNextLeastTimes", fn := fun _ => fun
  | [d1, d2] => { results := [.lit (.bool false)], args := [d1, d2] }
  | _ => none }
def FnCronNextLeastTimesWrongFalsely : Prop := fnCronNextLeastTimesRow.holds Try.pinned (OpenSpec.ofChange fnCronNextLeastTimesWrong)

/-- 'laws.FnCronNextStays': WHATEVER THE INPUT: true; the input reads as it did. -/
def fnCronNextStaysSpec : ChangeSpec := { name := "fnCronNextStays", fn := fun _ => fun
  | [d1, d2, d3] => { results := [.lit (.bool true)], args := [d1, d2, d3] }
  | _ => none }
def fnCronNextStaysRow : OpenClaim := { program := "ytpgclepiagfgfaa", sum := "eba66f695da994b99e449f03313b097736c6fd6b755e48fcd45b1a81bf5e298f", func := "pub-timebook/laws.FnCronNextStays", spec := "fnCronNextStays", unfollowed := true, recurses := true, apart := false }
def FnCronNextStaysSaid : Prop := fnCronNextStaysRow.holds Try.pinned (OpenSpec.ofChange fnCronNextStaysSpec)

/-- ITS FALSE NEIGHBOUR: 'it returns false'. Refute it at one input. -/
def fnCronNextStaysWrong : ChangeSpec := { name := "fnCronNextStays", fn := fun _ => fun
  | [d1, d2, d3] => { results := [.lit (.bool false)], args := [d1, d2, d3] }
  | _ => none }
def FnCronNextStaysWrongFalsely : Prop := fnCronNextStaysRow.holds Try.pinned (OpenSpec.ofChange fnCronNextStaysWrong)

/-- 'laws.FnCronZoneSpan': WHATEVER THE INPUT: true; the input reads as it did. -/
def fnCronZoneSpanSpec : ChangeSpec := { name := "fnCronZoneSpan", fn := fun _ => fun
  | [d1, d2, d3, d4] => { results := [.lit (.bool true)], args := [d1, d2, d3, d4] }
  | _ => none }
def fnCronZoneSpanRow : OpenClaim := { program := "ytpgclepiagfgfaa", sum := "eba66f695da994b99e449f03313b097736c6fd6b755e48fcd45b1a81bf5e298f", func := "pub-timebook/laws.FnCronZoneSpan", spec := "fnCronZoneSpan", unfollowed := true, recurses := true, apart := false }
def FnCronZoneSpanSaid : Prop := fnCronZoneSpanRow.holds Try.pinned (OpenSpec.ofChange fnCronZoneSpanSpec)

/-- ITS FALSE NEIGHBOUR: 'it returns false'. Refute it at one input. -/
def fnCronZoneSpanWrong : ChangeSpec := { name := "fnCronZoneSpan", fn := fun _ => fun
  | [d1, d2, d3, d4] => { results := [.lit (.bool false)], args := [d1, d2, d3, d4] }
  | _ => none }
def FnCronZoneSpanWrongFalsely : Prop := fnCronZoneSpanRow.holds Try.pinned (OpenSpec.ofChange fnCronZoneSpanWrong)

/-- 'laws.FnCronDaily': WHATEVER THE INPUT: true; the input reads as it did. -/
def fnCronDailySpec : ChangeSpec := { name := "fnCronDaily", fn := fun _ => fun
  | [d1, d2, d3] => { results := [.lit (.bool true)], args := [d1, d2, d3] }
  | _ => none }
def fnCronDailyRow : OpenClaim := { program := "ytpgclepiagfgfaa", sum := "eba66f695da994b99e449f03313b097736c6fd6b755e48fcd45b1a81bf5e298f", func := "pub-timebook/laws.FnCronDaily", spec := "fnCronDaily", unfollowed := true, recurses := true, apart := false }
def FnCronDailySaid : Prop := fnCronDailyRow.holds Try.pinned (OpenSpec.ofChange fnCronDailySpec)

/-- ITS FALSE NEIGHBOUR: 'it returns false'. Refute it at one input. -/
def fnCronDailyWrong : ChangeSpec := { name := "fnCronDaily", fn := fun _ => fun
  | [d1, d2, d3] => { results := [.lit (.bool false)], args := [d1, d2, d3] }
  | _ => none }
def FnCronDailyWrongFalsely : Prop := fnCronDailyRow.holds Try.pinned (OpenSpec.ofChange fnCronDailyWrong)

/-- 'laws.FnCronNextEitherDay': WHATEVER THE INPUT: true; the input reads as it did. -/
def fnCronNextEitherDaySpec : ChangeSpec := { name := "fnCronNextEitherDay", fn := fun _ => fun
  | [d1, d2] => { results := [.lit (.bool true)], args := [d1, d2] }
  | _ => none }
def fnCronNextEitherDayRow : OpenClaim := { program := "ytpgclepiagfgfaa", sum := "eba66f695da994b99e449f03313b097736c6fd6b755e48fcd45b1a81bf5e298f", func := "pub-timebook/laws.FnCronNextEitherDay", spec := "fnCronNextEitherDay", unfollowed := true, recurses := true, apart := false }
def FnCronNextEitherDaySaid : Prop := fnCronNextEitherDayRow.holds Try.pinned (OpenSpec.ofChange fnCronNextEitherDaySpec)

/-- ITS FALSE NEIGHBOUR: 'it returns false'. Refute it at one input. -/
def fnCronNextEitherDayWrong : ChangeSpec := { name := "fnCronNextEitherDay", fn := fun _ => fun
  | [d1, d2] => { results := [.lit (.bool false)], args := [d1, d2] }
  | _ => none }
def FnCronNextEitherDayWrongFalsely : Prop := fnCronNextEitherDayRow.holds Try.pinned (OpenSpec.ofChange fnCronNextEitherDayWrong)

/- THE SECOND FORM. 'bulk': how many values and letters a reading holds, each counted each time it is reached (what is shared counts as often as it is met; a slice's spare places count too). A statement '..UptoSaid' is the law's where the arguments, and the package variables that the reading takes, are together of bulk at most 1048576: NARROWER than '..Said'. Prove '..Said' where nothing that the law and all that it calls make is longer than what came in: it says more and counts as full. Else prove '..UptoSaid'. A law counts once. -/
mutual
def uptoBulk {H : Type} : DataW H → Nat
  | .lit (.string bytes) => bytes.length + 1
  | .lit _ => 1
  | .nil => 1
  | .ptr d => uptoBulk d + 1
  | .slice elems spare => uptoBulkAll elems + uptoBulkAll spare + 1
  | .agg parts => uptoBulkAll parts + 1
  | .iface _ d => uptoBulk d + 1
  | .map entries => uptoBulkEntries entries + 1
  | .held _ => 1
def uptoBulkAll {H : Type} : List (DataW H) → Nat
  | [] => 0
  | d :: r => uptoBulk d + uptoBulkAll r
def uptoBulkEntries {H : Type} : List (Lit × DataW H) → Nat
  | [] => 0
  | x :: r => uptoBulkEntry x + uptoBulkEntries r
def uptoBulkEntry {H : Type} : Lit × DataW H → Nat
  | (.string bytes, d) => bytes.length + uptoBulk d + 1
  | (_, d) => uptoBulk d + 1
 end
def uptoSmall : (H : Type) → List (DataW H) → Bool := fun _ ds => decide (uptoBulkAll ds ≤ 1048576)
def OpenSpec.upto (s : _root_.Go.ChangeSpec) : _root_.Go.OpenSpec := { _root_.Go.OpenSpec.ofChange s with cond := some uptoSmall }

/-- 'laws.FnCronDayOfBoth', WHERE WHAT IT READS IS OF BULK AT MOST 1048576: true; the input reads as it did. -/
def fnCronDayOfBothUptoRow : OpenClaim := { program := "ytpgclepiagfgfaa", sum := "eba66f695da994b99e449f03313b097736c6fd6b755e48fcd45b1a81bf5e298f", func := "pub-timebook/laws.FnCronDayOfBoth", spec := "fnCronDayOfBoth", apart := false, narrowed := true }
def FnCronDayOfBothUptoSaid : Prop := fnCronDayOfBothUptoRow.holds Try.pinned (OpenSpec.upto fnCronDayOfBothSpec)

/-- 'laws.FnCronNext', WHERE WHAT IT READS IS OF BULK AT MOST 1048576: true; the input reads as it did. -/
def fnCronNextUptoRow : OpenClaim := { program := "ytpgclepiagfgfaa", sum := "eba66f695da994b99e449f03313b097736c6fd6b755e48fcd45b1a81bf5e298f", func := "pub-timebook/laws.FnCronNext", spec := "fnCronNext", unfollowed := true, recurses := true, apart := false, narrowed := true }
def FnCronNextUptoSaid : Prop := fnCronNextUptoRow.holds Try.pinned (OpenSpec.upto fnCronNextSpec)

/-- 'laws.FnCronNextLeastTimes', WHERE WHAT IT READS IS OF BULK AT MOST 1048576: true; the input reads as it did. -/
def fnCronNextLeastTimesUptoRow : OpenClaim := { program := "ytpgclepiagfgfaa", sum := "eba66f695da994b99e449f03313b097736c6fd6b755e48fcd45b1a81bf5e298f", func := "pub-timebook/laws.FnCronNextLeastTimes", spec := "fnCronNextLeastTimes", unfollowed := true, recurses := true, apart := false, narrowed := true }
def FnCronNextLeastTimesUptoSaid : Prop := fnCronNextLeastTimesUptoRow.holds Try.pinned (OpenSpec.upto fnCronNextLeastTimesSpec)

/-- 'laws.FnCronNextStays', WHERE WHAT IT READS IS OF BULK AT MOST 1048576: true; the input reads as it did. -/
def fnCronNextStaysUptoRow : OpenClaim := { program := "ytpgclepiagfgfaa", sum := "eba66f695da994b99e449f03313b097736c6fd6b755e48fcd45b1a81bf5e298f", func := "pub-timebook/laws.FnCronNextStays", spec := "fnCronNextStays", unfollowed := true, recurses := true, apart := false, narrowed := true }
def FnCronNextStaysUptoSaid : Prop := fnCronNextStaysUptoRow.holds Try.pinned (OpenSpec.upto fnCronNextStaysSpec)

/-- 'laws.FnCronZoneSpan', WHERE WHAT IT READS IS OF BULK AT MOST 1048576: true; the input reads as it did. -/
def fnCronZoneSpanUptoRow : OpenClaim := { program := "ytpgclepiagfgfaa", sum := "eba66f695da994b99e449f03313b097736c6fd6b755e48fcd45b1a81bf5e298f", func := "pub-timebook/laws.FnCronZoneSpan", spec := "fnCronZoneSpan", unfollowed := true, recurses := true, apart := false, narrowed := true }
def FnCronZoneSpanUptoSaid : Prop := fnCronZoneSpanUptoRow.holds Try.pinned (OpenSpec.upto fnCronZoneSpanSpec)

/-- 'laws.FnCronDaily', WHERE WHAT IT READS IS OF BULK AT MOST 1048576: true; the input reads as it did. -/
def fnCronDailyUptoRow : OpenClaim := { program := "ytpgclepiagfgfaa", sum := "eba66f695da994b99e449f03313b097736c6fd6b755e48fcd45b1a81bf5e298f", func := "pub-timebook/laws.FnCronDaily", spec := "fnCronDaily", unfollowed := true, recurses := true, apart := false, narrowed := true }
def FnCronDailyUptoSaid : Prop := fnCronDailyUptoRow.holds Try.pinned (OpenSpec.upto fnCronDailySpec)

/-- 'laws.FnCronNextEitherDay', WHERE WHAT IT READS IS OF BULK AT MOST 1048576: true; the input reads as it did. -/
def fnCronNextEitherDayUptoRow : OpenClaim := { program := "ytpgclepiagfgfaa", sum := "eba66f695da994b99e449f03313b097736c6fd6b755e48fcd45b1a81bf5e298f", func := "pub-timebook/laws.FnCronNextEitherDay", spec := "fnCronNextEitherDay", unfollowed := true, recurses := true, apart := false, narrowed := true }
def FnCronNextEitherDayUptoSaid : Prop := fnCronNextEitherDayUptoRow.holds Try.pinned (OpenSpec.upto fnCronNextEitherDaySpec)

end Rows
end Go.Proofs.Ytpgclepiagfgfaa
