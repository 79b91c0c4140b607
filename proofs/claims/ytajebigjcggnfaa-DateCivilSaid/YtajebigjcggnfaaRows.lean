/-
  No cell of these rows narrows 'for every input' (looked for: loops, veiled, ifaces, maps, wideKeys, modest, calm, conditions, laid).
  DERIVED. THE GIVEN ROWS OF THIS SEAT. 10 by the template 'for every input the law returns true; each argument reads behind the call as it read before'; 0 by the template 'total and deterministic' (their statements: YtajebigjcggnfaaTotals.lean).
  GIVEN WITH THE SEED: the statements are not yours to turn. If you find one false, say at which input.
  Laid BY PROGRAM, IN A SANDBOX (cutbox-rows.mjs): the forced cells as the released guide's own fill.sh prints them over the translation 7b9efbd8f5d976da… (all of the seat's roots in one cut). By AI agents, Wed Nov 11 2026. No macro, syntax, notation, axiom, sorry.
-/
import Derived.Test.YtajebigjcggnfaaChecked
import GoSem.Claim
import GoSem.ClaimJoined
import GoSem.ClaimMapViews
import Derived.JoinedTies
import Derived.KernelRfl
namespace Go.Proofs.Ytajebigjcggnfaa
/- THE CELL 'sum', in the pinned program and in every row, IS THE sha256 OF THE DUMP (.gsa) THAT YtajebigjcggnfaaProg.lean LOADS. Nothing in Lean hashes anything: it is a label: what it is worth is what the hold of that sum in a sandbox is worth. -/
noncomputable def Try.pinned : Pinned := { name := "ytajebigjcggnfaa", sum := "7b9efbd8f5d976dac4f0e29d8063bb61cd463cb168d9761d401d00c0faf62438", checked := Try.checked }
namespace Rows
def none {H : Type} : Left H := { results := [], args := [] }

/-- 'girolaw03.DateCivil': WHATEVER THE INPUT: true; the input reads as it did. -/
def dateCivilSpec : ChangeSpec := { name := "dateCivil", fn := fun _ => fun
  | [d] => { results := [.lit (.bool true)], args := [d] }
  | _ => none }
def dateCivilRow : OpenClaim := { program := "ytajebigjcggnfaa", sum := "7b9efbd8f5d976dac4f0e29d8063bb61cd463cb168d9761d401d00c0faf62438", func := "giro/girolaw03.DateCivil", spec := "dateCivil", unfollowed := true, recurses := true, apart := false }
def DateCivilSaid : Prop := dateCivilRow.holds Try.pinned (OpenSpec.ofChange dateCivilSpec)

/-- ITS FALSE NEIGHBOUR: 'it returns false'. Refute it at one input. -/
def dateCivilWrong : ChangeSpec := { name := "dateCivil", fn := fun _ => fun
  | [d] => { results := [.lit (.bool false)], args := [d] }
  | _ => none }
def DateCivilWrongFalsely : Prop := dateCivilRow.holds Try.pinned (OpenSpec.ofChange dateCivilWrong)

/-- 'girolaw03.DateFromCivil': WHATEVER THE INPUT: true; the input reads as it did. -/
def dateFromCivilSpec : ChangeSpec := { name := "dateFromCivil", fn := fun _ => fun
  | [d] => { results := [.lit (.bool true)], args := [d] }
  | _ => none }
def dateFromCivilRow : OpenClaim := { program := "ytajebigjcggnfaa", sum := "7b9efbd8f5d976dac4f0e29d8063bb61cd463cb168d9761d401d00c0faf62438", func := "giro/girolaw03.DateFromCivil", spec := "dateFromCivil", unfollowed := true, recurses := true, apart := false }
def DateFromCivilSaid : Prop := dateFromCivilRow.holds Try.pinned (OpenSpec.ofChange dateFromCivilSpec)

/-- ITS FALSE NEIGHBOUR: 'it returns false'. Refute it at one input. -/
def dateFromCivilWrong : ChangeSpec := { name := "dateFromCivil", fn := fun _ => fun
  | [d] => { results := [.lit (.bool false)], args := [d] }
  | _ => none }
def DateFromCivilWrongFalsely : Prop := dateFromCivilRow.holds Try.pinned (OpenSpec.ofChange dateFromCivilWrong)

/-- 'girolaw03.DateMonthLengths': WHATEVER THE INPUT: true; the input reads as it did. -/
def dateMonthLengthsSpec : ChangeSpec := { name := "dateMonthLengths", fn := fun _ => fun
  | [d1, d2] => { results := [.lit (.bool true)], args := [d1, d2] }
  | _ => none }
def dateMonthLengthsRow : OpenClaim := { program := "ytajebigjcggnfaa", sum := "7b9efbd8f5d976dac4f0e29d8063bb61cd463cb168d9761d401d00c0faf62438", func := "giro/girolaw03.DateMonthLengths", spec := "dateMonthLengths", unfollowed := true, recurses := true, apart := false }
def DateMonthLengthsSaid : Prop := dateMonthLengthsRow.holds Try.pinned (OpenSpec.ofChange dateMonthLengthsSpec)

/-- ITS FALSE NEIGHBOUR: 'it returns false'. Refute it at one input. -/
def dateMonthLengthsWrong : ChangeSpec := { name := "dateMonthLengths", fn := fun _ => fun
  | [d1, d2] => { results := [.lit (.bool false)], args := [d1, d2] }
  | _ => none }
def DateMonthLengthsWrongFalsely : Prop := dateMonthLengthsRow.holds Try.pinned (OpenSpec.ofChange dateMonthLengthsWrong)

/-- 'girolaw03.DateMonthsBetween': WHATEVER THE INPUT: true; the input reads as it did. -/
def dateMonthsBetweenSpec : ChangeSpec := { name := "dateMonthsBetween", fn := fun _ => fun
  | [d1, d2] => { results := [.lit (.bool true)], args := [d1, d2] }
  | _ => none }
def dateMonthsBetweenRow : OpenClaim := { program := "ytajebigjcggnfaa", sum := "7b9efbd8f5d976dac4f0e29d8063bb61cd463cb168d9761d401d00c0faf62438", func := "giro/girolaw03.DateMonthsBetween", spec := "dateMonthsBetween", unfollowed := true, recurses := true, apart := false }
def DateMonthsBetweenSaid : Prop := dateMonthsBetweenRow.holds Try.pinned (OpenSpec.ofChange dateMonthsBetweenSpec)

/-- ITS FALSE NEIGHBOUR: 'it returns false'. Refute it at one input. -/
def dateMonthsBetweenWrong : ChangeSpec := { name := "dateMonthsBetween", fn := fun _ => fun
  | [d1, d2] => { results := [.lit (.bool false)], args := [d1, d2] }
  | _ => none }
def DateMonthsBetweenWrongFalsely : Prop := dateMonthsBetweenRow.holds Try.pinned (OpenSpec.ofChange dateMonthsBetweenWrong)

/-- 'girolaw03.DateWeeks': WHATEVER THE INPUT: true; the input reads as it did. -/
def dateWeeksSpec : ChangeSpec := { name := "dateWeeks", fn := fun _ => fun
  | [d] => { results := [.lit (.bool true)], args := [d] }
  | _ => none }
def dateWeeksRow : OpenClaim := { program := "ytajebigjcggnfaa", sum := "7b9efbd8f5d976dac4f0e29d8063bb61cd463cb168d9761d401d00c0faf62438", func := "giro/girolaw03.DateWeeks", spec := "dateWeeks", unfollowed := true, recurses := true, apart := false }
def DateWeeksSaid : Prop := dateWeeksRow.holds Try.pinned (OpenSpec.ofChange dateWeeksSpec)

/-- ITS FALSE NEIGHBOUR: 'it returns false'. Refute it at one input. -/
def dateWeeksWrong : ChangeSpec := { name := "dateWeeks", fn := fun _ => fun
  | [d] => { results := [.lit (.bool false)], args := [d] }
  | _ => none }
def DateWeeksWrongFalsely : Prop := dateWeeksRow.holds Try.pinned (OpenSpec.ofChange dateWeeksWrong)

/-- 'girolaw03.DateTexts': WHATEVER THE INPUT: true; the input reads as it did. -/
def dateTextsSpec : ChangeSpec := { name := "dateTexts", fn := fun _ => fun
  | [d1, d2] => { results := [.lit (.bool true)], args := [d1, d2] }
  | _ => none }
def dateTextsRow : OpenClaim := { program := "ytajebigjcggnfaa", sum := "7b9efbd8f5d976dac4f0e29d8063bb61cd463cb168d9761d401d00c0faf62438", func := "giro/girolaw03.DateTexts", spec := "dateTexts", unfollowed := true, recurses := true, apart := false }
def DateTextsSaid : Prop := dateTextsRow.holds Try.pinned (OpenSpec.ofChange dateTextsSpec)

/-- ITS FALSE NEIGHBOUR: 'it returns false'. Refute it at one input. -/
def dateTextsWrong : ChangeSpec := { name := "dateTexts", fn := fun _ => fun
  | [d1, d2] => { results := [.lit (.bool false)], args := [d1, d2] }
  | _ => none }
def DateTextsWrongFalsely : Prop := dateTextsRow.holds Try.pinned (OpenSpec.ofChange dateTextsWrong)

/-- 'girolaw03.DateWeekdays': WHATEVER THE INPUT: true; the input reads as it did. -/
def dateWeekdaysSpec : ChangeSpec := { name := "dateWeekdays", fn := fun _ => fun
  | [d] => { results := [.lit (.bool true)], args := [d] }
  | _ => none }
def dateWeekdaysRow : OpenClaim := { program := "ytajebigjcggnfaa", sum := "7b9efbd8f5d976dac4f0e29d8063bb61cd463cb168d9761d401d00c0faf62438", func := "giro/girolaw03.DateWeekdays", spec := "dateWeekdays", unfollowed := true, recurses := true, apart := false }
def DateWeekdaysSaid : Prop := dateWeekdaysRow.holds Try.pinned (OpenSpec.ofChange dateWeekdaysSpec)

/-- ITS FALSE NEIGHBOUR: 'it returns false'. Refute it at one input. -/
def dateWeekdaysWrong : ChangeSpec := { name := "dateWeekdays", fn := fun _ => fun
  | [d] => { results := [.lit (.bool false)], args := [d] }
  | _ => none }
def DateWeekdaysWrongFalsely : Prop := dateWeekdaysRow.holds Try.pinned (OpenSpec.ofChange dateWeekdaysWrong)

/-- 'girolaw03.DateAddMonths': WHATEVER THE INPUT: true; the input reads as it did. -/
def dateAddMonthsSpec : ChangeSpec := { name := "dateAddMonths", fn := fun _ => fun
  | [d1, d2] => { results := [.lit (.bool true)], args := [d1, d2] }
  | _ => none }
def dateAddMonthsRow : OpenClaim := { program := "ytajebigjcggnfaa", sum := "7b9efbd8f5d976dac4f0e29d8063bb61cd463cb168d9761d401d00c0faf62438", func := "giro/girolaw03.DateAddMonths", spec := "dateAddMonths", unfollowed := true, recurses := true, apart := false }
def DateAddMonthsSaid : Prop := dateAddMonthsRow.holds Try.pinned (OpenSpec.ofChange dateAddMonthsSpec)

/-- ITS FALSE NEIGHBOUR: 'it returns false'. Refute it at one input. -/
def dateAddMonthsWrong : ChangeSpec := { name := "dateAddMonths", fn := fun _ => fun
  | [d1, d2] => { results := [.lit (.bool false)], args := [d1, d2] }
  | _ => none }
def DateAddMonthsWrongFalsely : Prop := dateAddMonthsRow.holds Try.pinned (OpenSpec.ofChange dateAddMonthsWrong)

/-- 'girolaw03.DateParse': WHATEVER THE INPUT: true; the input reads as it did. -/
def dateParseSpec : ChangeSpec := { name := "dateParse", fn := fun _ => fun
  | [d] => { results := [.lit (.bool true)], args := [d] }
  | _ => none }
def dateParseRow : OpenClaim := { program := "ytajebigjcggnfaa", sum := "7b9efbd8f5d976dac4f0e29d8063bb61cd463cb168d9761d401d00c0faf62438", func := "giro/girolaw03.DateParse", spec := "dateParse", unfollowed := true, recurses := true, apart := false }
def DateParseSaid : Prop := dateParseRow.holds Try.pinned (OpenSpec.ofChange dateParseSpec)

/-- ITS FALSE NEIGHBOUR: 'it returns false'. Refute it at one input. -/
def dateParseWrong : ChangeSpec := { name := "dateParse", fn := fun _ => fun
  | [d] => { results := [.lit (.bool false)], args := [d] }
  | _ => none }
def DateParseWrongFalsely : Prop := dateParseRow.holds Try.pinned (OpenSpec.ofChange dateParseWrong)

/-- 'girolaw03.DateClocks': WHATEVER THE INPUT: true; the input reads as it did. -/
def dateClocksSpec : ChangeSpec := { name := "dateClocks", fn := fun _ => fun
  | [d1, d2] => { results := [.lit (.bool true)], args := [d1, d2] }
  | _ => none }
def dateClocksRow : OpenClaim := { program := "ytajebigjcggnfaa", sum := "7b9efbd8f5d976dac4f0e29d8063bb61cd463cb168d9761d401d00c0faf62438", func := "giro/girolaw03.DateClocks", spec := "dateClocks", unfollowed := true, recurses := true, apart := false }
def DateClocksSaid : Prop := dateClocksRow.holds Try.pinned (OpenSpec.ofChange dateClocksSpec)

/-- ITS FALSE NEIGHBOUR: 'it returns false'. Refute it at one input. -/
def dateClocksWrong : ChangeSpec := { name := "dateClocks", fn := fun _ => fun
  | [d1, d2] => { results := [.lit (.bool false)], args := [d1, d2] }
  | _ => none }
def DateClocksWrongFalsely : Prop := dateClocksRow.holds Try.pinned (OpenSpec.ofChange dateClocksWrong)

/- THE SECOND FORM. 'bulk': how many values and letters a reading holds, each counted each time it is reached (what is shared counts as often as it is met; a slice's spare places count too). A statement '..UptoSaid' is the law's where the arguments, and the package variables that the reading takes, are together of bulk at most 1048576: NARROWER than '..Said'. Prove '..Said' where nothing that the law and all that it calls make is longer than what came in: it says more and counts as full. Else prove '..UptoSaid'. A law counts once. -/
mutual
def uptoBulk {H : Type} : DataW H → Nat
  | .lit (.string bytes) => bytes.length + 1
  | .lit _ => 1
  | .nil => 1
  | .ptr d => uptoBulk d + 1
  | .slice elems spare => uptoBulkAll elems + uptoBulkAll spare + 1
  | .agg parts => uptoBulkAll parts + 1
  | .iface _ d => uptoBulk d + 1
  | .map entries => uptoBulkEntries entries + 1
  | .held _ => 1
def uptoBulkAll {H : Type} : List (DataW H) → Nat
  | [] => 0
  | d :: r => uptoBulk d + uptoBulkAll r
def uptoBulkEntries {H : Type} : List (Lit × DataW H) → Nat
  | [] => 0
  | x :: r => uptoBulkEntry x + uptoBulkEntries r
def uptoBulkEntry {H : Type} : Lit × DataW H → Nat
  | (.string bytes, d) => bytes.length + uptoBulk d + 1
  | (_, d) => uptoBulk d + 1
 end
def uptoSmall : (H : Type) → List (DataW H) → Bool := fun _ ds => decide (uptoBulkAll ds ≤ 1048576)
def OpenSpec.upto (s : _root_.Go.ChangeSpec) : _root_.Go.OpenSpec := { _root_.Go.OpenSpec.ofChange s with cond := some uptoSmall }

/-- 'girolaw03.DateCivil', WHERE WHAT IT READS IS OF BULK AT MOST 1048576: true; the input reads as it did. -/
def dateCivilUptoRow : OpenClaim := { program := "ytajebigjcggnfaa", sum := "7b9efbd8f5d976dac4f0e29d8063bb61cd463cb168d9761d401d00c0faf62438", func := "giro/girolaw03.DateCivil", spec := "dateCivil", unfollowed := true, recurses := true, apart := false, narrowed := true }
def DateCivilUptoSaid : Prop := dateCivilUptoRow.holds Try.pinned (OpenSpec.upto dateCivilSpec)

/-- 'girolaw03.DateFromCivil', WHERE WHAT IT READS IS OF BULK AT MOST 1048576: true; the input reads as it did. -/
def dateFromCivilUptoRow : OpenClaim := { program := "ytajebigjcggnfaa", sum := "7b9efbd8f5d976dac4f0e29d8063bb61cd463cb168d9761d401d00c0faf62438", func := "giro/girolaw03.DateFromCivil", spec := "dateFromCivil", unfollowed := true, recurses := true, apart := false, narrowed := true }
def DateFromCivilUptoSaid : Prop := dateFromCivilUptoRow.holds Try.pinned (OpenSpec.upto dateFromCivilSpec)

/-- 'girolaw03.DateMonthLengths', WHERE WHAT IT READS IS OF BULK AT MOST 1048576: true; the input reads as it did. -/
def dateMonthLengthsUptoRow : OpenClaim := { program := "ytajebigjcggnfaa", sum := "7b9efbd8f5d976dac4f0e29d8063bb61cd463cb168d9761d401d00c0faf62438", func := "giro/girolaw03.DateMonthLengths", spec := "dateMonthLengths", unfollowed := true, recurses := true, apart := false, narrowed := true }
def DateMonthLengthsUptoSaid : Prop := dateMonthLengthsUptoRow.holds Try.pinned (OpenSpec.upto dateMonthLengthsSpec)

/-- 'girolaw03.DateMonthsBetween', WHERE WHAT IT READS IS OF BULK AT MOST 1048576: true; the input reads as it did. -/
def dateMonthsBetweenUptoRow : OpenClaim := { program := "ytajebigjcggnfaa", sum := "7b9efbd8f5d976dac4f0e29d8063bb61cd463cb168d9761d401d00c0faf62438", func := "giro/girolaw03.DateMonthsBetween", spec := "dateMonthsBetween", unfollowed := true, recurses := true, apart := false, narrowed := true }
def DateMonthsBetweenUptoSaid : Prop := dateMonthsBetweenUptoRow.holds Try.pinned (OpenSpec.upto dateMonthsBetweenSpec)

/-- 'girolaw03.DateWeeks', WHERE WHAT IT READS IS OF BULK AT MOST 1048576: true; the input reads as it did. -/
def dateWeeksUptoRow : OpenClaim := { program := "ytajebigjcggnfaa", sum := "7b9efbd8f5d976dac4f0e29d8063bb61cd463cb168d9761d401d00c0faf62438", func := "giro/girolaw03.DateWeeks", spec := "dateWeeks", unfollowed := true, recurses := true, apart := false, narrowed := true }
def DateWeeksUptoSaid : Prop := dateWeeksUptoRow.holds Try.pinned (OpenSpec.upto dateWeeksSpec)

/-- 'girolaw03.DateTexts', WHERE WHAT IT READS IS OF BULK AT MOST 1048576: true; the input reads as it did. -/
def dateTextsUptoRow : OpenClaim := { program := "ytajebigjcggnfaa", sum := "7b9efbd8f5d976dac4f0e29d8063bb61cd463cb168d9761d401d00c0faf62438", func := "giro/girolaw03.DateTexts", spec := "dateTexts", unfollowed := true, recurses := true, apart := false, narrowed := true }
def DateTextsUptoSaid : Prop := dateTextsUptoRow.holds Try.pinned (OpenSpec.upto dateTextsSpec)

/-- 'girolaw03.DateWeekdays', WHERE WHAT IT READS IS OF BULK AT MOST 1048576: true; the input reads as it did. -/
def dateWeekdaysUptoRow : OpenClaim := { program := "ytajebigjcggnfaa", sum := "7b9efbd8f5d976dac4f0e29d8063bb61cd463cb168d9761d401d00c0faf62438", func := "giro/girolaw03.DateWeekdays", spec := "dateWeekdays", unfollowed := true, recurses := true, apart := false, narrowed := true }
def DateWeekdaysUptoSaid : Prop := dateWeekdaysUptoRow.holds Try.pinned (OpenSpec.upto dateWeekdaysSpec)

/-- 'girolaw03.DateAddMonths', WHERE WHAT IT READS IS OF BULK AT MOST 1048576: true; the input reads as it did. -/
def dateAddMonthsUptoRow : OpenClaim := { program := "ytajebigjcggnfaa", sum := "7b9efbd8f5d976dac4f0e29d8063bb61cd463cb168d9761d401d00c0faf62438", func := "giro/girolaw03.DateAddMonths", spec := "dateAddMonths", unfollowed := true, recurses := true, apart := false, narrowed := true }
def DateAddMonthsUptoSaid : Prop := dateAddMonthsUptoRow.holds Try.pinned (OpenSpec.upto dateAddMonthsSpec)

/-- 'girolaw03.DateParse', WHERE WHAT IT READS IS OF BULK AT MOST 1048576: true; the input reads as it did. -/
def dateParseUptoRow : OpenClaim := { program := "ytajebigjcggnfaa", sum := "7b9efbd8f5d976dac4f0e29d8063bb61cd463cb168d9761d401d00c0faf62438", func := "giro/girolaw03.DateParse", spec := "dateParse", unfollowed := true, recurses := true, apart := false, narrowed := true }
def DateParseUptoSaid : Prop := dateParseUptoRow.holds Try.pinned (OpenSpec.upto dateParseSpec)

/-- 'girolaw03.DateClocks', WHERE WHAT IT READS IS OF BULK AT MOST 1048576: true; the input reads as it did. -/
def dateClocksUptoRow : OpenClaim := { program := "ytajebigjcggnfaa", sum := "7b9efbd8f5d976dac4f0e29d8063bb61cd463cb168d9761d401d00c0faf62438", func := "giro/girolaw03.DateClocks", spec := "dateClocks", unfollowed := true, recurses := true, apart := false, narrowed := true }
def DateClocksUptoSaid : Prop := dateClocksUptoRow.holds Try.pinned (OpenSpec.upto dateClocksSpec)

end Rows
end Go.Proofs.Ytajebigjcggnfaa
