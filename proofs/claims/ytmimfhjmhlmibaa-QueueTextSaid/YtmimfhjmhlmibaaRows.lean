/-
  No cell of these rows narrows 'for every input' (looked for: loops, veiled, ifaces, maps, wideKeys, modest, calm, conditions, laid).
  DERIVED. THE GIVEN ROWS OF THIS SEAT. 9 by the template 'for every input the law returns true; each argument reads behind the call as it read before'; 0 by the template 'total and deterministic' (their statements: YtmimfhjmhlmibaaTotals.lean).
  GIVEN WITH THE SEED: the statements are not yours to turn. If you find one false, say at which input.
  Laid BY PROGRAM, IN A SANDBOX (cutbox-rows.mjs): the forced cells as the released guide's own fill.sh prints them over the translation bf741f0b6c65ddd9… (all of the seat's roots in one cut). By AI agents, Wed Nov 11 2026. No macro, syntax, notation, axiom, sorry.
-/
import Derived.Test.YtmimfhjmhlmibaaChecked
import GoSem.Claim
import GoSem.ClaimJoined
import GoSem.ClaimMapViews
import Derived.JoinedTies
import Derived.KernelRfl
namespace Go.Proofs.Ytmimfhjmhlmibaa
/- THE CELL 'sum', in the pinned program and in every row, IS THE sha256 OF THE DUMP (.gsa) THAT YtmimfhjmhlmibaaProg.lean LOADS. Nothing in Lean hashes anything: it is a label: what it is worth is what the hold of that sum in a sandbox is worth. -/
noncomputable def Try.pinned : Pinned := { name := "ytmimfhjmhlmibaa", sum := "bf741f0b6c65ddd9673e47984c71ac72a0c9d63493331469b1ed9262aa2d04d4", checked := Try.checked }
namespace Rows
def none {H : Type} : Left H := { results := [], args := [] }

/-- 'girolaw26.QueueCompare': WHATEVER THE INPUT: true; the input reads as it did. -/
def queueCompareSpec : ChangeSpec := { name := "queueCompare", fn := fun _ => fun
  | [d1, d2, d3] => { results := [.lit (.bool true)], args := [d1, d2, d3] }
  | _ => none }
def queueCompareRow : OpenClaim := { program := "ytmimfhjmhlmibaa", sum := "bf741f0b6c65ddd9673e47984c71ac72a0c9d63493331469b1ed9262aa2d04d4", func := "giro/girolaw26.QueueCompare", spec := "queueCompare", inPlace := ["slices.overlaps[giro/queue.entry[int]]"], unfollowed := true, recurses := true, apart := false }
def QueueCompareSaid : Prop := queueCompareRow.holds Try.pinned (OpenSpec.ofChange queueCompareSpec)

/-- ITS FALSE NEIGHBOUR: 'it returns false'. Refute it at one input. -/
def queueCompareWrong : ChangeSpec := { name := "queueCompare", fn := fun _ => fun
  | [d1, d2, d3] => { results := [.lit (.bool false)], args := [d1, d2, d3] }
  | _ => none }
def QueueCompareWrongFalsely : Prop := queueCompareRow.holds Try.pinned (OpenSpec.ofChange queueCompareWrong)

/-- 'girolaw26.QueueText': WHATEVER THE INPUT: true; the input reads as it did. -/
def queueTextSpec : ChangeSpec := { name := "queueText", fn := fun _ => fun
  | [d] => { results := [.lit (.bool true)], args := [d] }
  | _ => none }
def queueTextRow : OpenClaim := { program := "ytmimfhjmhlmibaa", sum := "bf741f0b6c65ddd9673e47984c71ac72a0c9d63493331469b1ed9262aa2d04d4", func := "giro/girolaw26.QueueText", spec := "queueText", inPlace := ["slices.overlaps[giro/queue.entry[int]]", "slices.overlaps[giro/queue.entry[string]]"], unfollowed := true, recurses := true, apart := false }
def QueueTextSaid : Prop := queueTextRow.holds Try.pinned (OpenSpec.ofChange queueTextSpec)

/-- ITS FALSE NEIGHBOUR: 'it returns false'. Refute it at one input. -/
def queueTextWrong : ChangeSpec := { name := "queueText", fn := fun _ => fun
  | [d] => { results := [.lit (.bool false)], args := [d] }
  | _ => none }
def QueueTextWrongFalsely : Prop := queueTextRow.holds Try.pinned (OpenSpec.ofChange queueTextWrong)

/-- 'girolaw26.QueueWhere': WHATEVER THE INPUT: true; the input reads as it did. -/
def queueWhereSpec : ChangeSpec := { name := "queueWhere", fn := fun _ => fun
  | [d1, d2] => { results := [.lit (.bool true)], args := [d1, d2] }
  | _ => none }
def queueWhereRow : OpenClaim := { program := "ytmimfhjmhlmibaa", sum := "bf741f0b6c65ddd9673e47984c71ac72a0c9d63493331469b1ed9262aa2d04d4", func := "giro/girolaw26.QueueWhere", spec := "queueWhere", inPlace := ["slices.overlaps[giro/queue.entry[int]]"], unfollowed := true, recurses := true, apart := false }
def QueueWhereSaid : Prop := queueWhereRow.holds Try.pinned (OpenSpec.ofChange queueWhereSpec)

/-- ITS FALSE NEIGHBOUR: 'it returns false'. Refute it at one input. -/
def queueWhereWrong : ChangeSpec := { name := "queueWhere", fn := fun _ => fun
  | [d1, d2] => { results := [.lit (.bool false)], args := [d1, d2] }
  | _ => none }
def QueueWhereWrongFalsely : Prop := queueWhereRow.holds Try.pinned (OpenSpec.ofChange queueWhereWrong)

/-- 'girolaw26.QueueChanging': WHATEVER THE INPUT: true; the input reads as it did. -/
def queueChangingSpec : ChangeSpec := { name := "queueChanging", fn := fun _ => fun
  | [d] => { results := [.lit (.bool true)], args := [d] }
  | _ => none }
def queueChangingRow : OpenClaim := { program := "ytmimfhjmhlmibaa", sum := "bf741f0b6c65ddd9673e47984c71ac72a0c9d63493331469b1ed9262aa2d04d4", func := "giro/girolaw26.QueueChanging", spec := "queueChanging", inPlace := ["slices.overlaps[giro/queue.entry[int]]"], unfollowed := true, recurses := true, apart := false }
def QueueChangingSaid : Prop := queueChangingRow.holds Try.pinned (OpenSpec.ofChange queueChangingSpec)

/-- ITS FALSE NEIGHBOUR: 'it returns false'. Refute it at one input. -/
def queueChangingWrong : ChangeSpec := { name := "queueChanging", fn := fun _ => fun
  | [d] => { results := [.lit (.bool false)], args := [d] }
  | _ => none }
def QueueChangingWrongFalsely : Prop := queueChangingRow.holds Try.pinned (OpenSpec.ofChange queueChangingWrong)

/-- 'girolaw26.QueueOperations': WHATEVER THE INPUT: true; the input reads as it did. -/
def queueOperationsSpec : ChangeSpec := { name := "queueOperations", fn := fun _ => fun
  | [d] => { results := [.lit (.bool true)], args := [d] }
  | _ => none }
def queueOperationsRow : OpenClaim := { program := "ytmimfhjmhlmibaa", sum := "bf741f0b6c65ddd9673e47984c71ac72a0c9d63493331469b1ed9262aa2d04d4", func := "giro/girolaw26.QueueOperations", spec := "queueOperations", inPlace := ["slices.overlaps[giro/queue.entry[int]]"], unfollowed := true, recurses := true, apart := false }
def QueueOperationsSaid : Prop := queueOperationsRow.holds Try.pinned (OpenSpec.ofChange queueOperationsSpec)

/-- ITS FALSE NEIGHBOUR: 'it returns false'. Refute it at one input. -/
def queueOperationsWrong : ChangeSpec := { name := "queueOperations", fn := fun _ => fun
  | [d] => { results := [.lit (.bool false)], args := [d] }
  | _ => none }
def QueueOperationsWrongFalsely : Prop := queueOperationsRow.holds Try.pinned (OpenSpec.ofChange queueOperationsWrong)

/-- 'girolaw26.QueueFifo': WHATEVER THE INPUT: true; the input reads as it did. -/
def queueFifoSpec : ChangeSpec := { name := "queueFifo", fn := fun _ => fun
  | [d] => { results := [.lit (.bool true)], args := [d] }
  | _ => none }
def queueFifoRow : OpenClaim := { program := "ytmimfhjmhlmibaa", sum := "bf741f0b6c65ddd9673e47984c71ac72a0c9d63493331469b1ed9262aa2d04d4", func := "giro/girolaw26.QueueFifo", spec := "queueFifo", inPlace := ["slices.overlaps[giro/queue.entry[int]]"], unfollowed := true, recurses := true, apart := false }
def QueueFifoSaid : Prop := queueFifoRow.holds Try.pinned (OpenSpec.ofChange queueFifoSpec)

/-- ITS FALSE NEIGHBOUR: 'it returns false'. Refute it at one input. -/
def queueFifoWrong : ChangeSpec := { name := "queueFifo", fn := fun _ => fun
  | [d] => { results := [.lit (.bool false)], args := [d] }
  | _ => none }
def QueueFifoWrongFalsely : Prop := queueFifoRow.holds Try.pinned (OpenSpec.ofChange queueFifoWrong)

/-- 'girolaw26.QueueStable': WHATEVER THE INPUT: true; the input reads as it did. -/
def queueStableSpec : ChangeSpec := { name := "queueStable", fn := fun _ => fun
  | [d1, d2] => { results := [.lit (.bool true)], args := [d1, d2] }
  | _ => none }
def queueStableRow : OpenClaim := { program := "ytmimfhjmhlmibaa", sum := "bf741f0b6c65ddd9673e47984c71ac72a0c9d63493331469b1ed9262aa2d04d4", func := "giro/girolaw26.QueueStable", spec := "queueStable", inPlace := ["slices.overlaps[giro/queue.entry[int]]"], unfollowed := true, recurses := true, apart := false }
def QueueStableSaid : Prop := queueStableRow.holds Try.pinned (OpenSpec.ofChange queueStableSpec)

/-- ITS FALSE NEIGHBOUR: 'it returns false'. Refute it at one input. -/
def queueStableWrong : ChangeSpec := { name := "queueStable", fn := fun _ => fun
  | [d1, d2] => { results := [.lit (.bool false)], args := [d1, d2] }
  | _ => none }
def QueueStableWrongFalsely : Prop := queueStableRow.holds Try.pinned (OpenSpec.ofChange queueStableWrong)

/-- 'girolaw26.QueueClones': WHATEVER THE INPUT: true; the input reads as it did. -/
def queueClonesSpec : ChangeSpec := { name := "queueClones", fn := fun _ => fun
  | [d1, d2] => { results := [.lit (.bool true)], args := [d1, d2] }
  | _ => none }
def queueClonesRow : OpenClaim := { program := "ytmimfhjmhlmibaa", sum := "bf741f0b6c65ddd9673e47984c71ac72a0c9d63493331469b1ed9262aa2d04d4", func := "giro/girolaw26.QueueClones", spec := "queueClones", inPlace := ["slices.overlaps[giro/queue.entry[int]]", "maps.clone"], unfollowed := true, recurses := true, apart := false }
def QueueClonesSaid : Prop := queueClonesRow.holds Try.pinned (OpenSpec.ofChange queueClonesSpec)

/-- ITS FALSE NEIGHBOUR: 'it returns false'. Refute it at one input. -/
def queueClonesWrong : ChangeSpec := { name := "queueClones", fn := fun _ => fun
  | [d1, d2] => { results := [.lit (.bool false)], args := [d1, d2] }
  | _ => none }
def QueueClonesWrongFalsely : Prop := queueClonesRow.holds Try.pinned (OpenSpec.ofChange queueClonesWrong)

/-- 'girolaw26.QueueNil': WHATEVER THE INPUT: true; the input reads as it did. -/
def queueNilSpec : ChangeSpec := { name := "queueNil", fn := fun _ => fun
  | [d] => { results := [.lit (.bool true)], args := [d] }
  | _ => none }
def queueNilRow : OpenClaim := { program := "ytmimfhjmhlmibaa", sum := "bf741f0b6c65ddd9673e47984c71ac72a0c9d63493331469b1ed9262aa2d04d4", func := "giro/girolaw26.QueueNil", spec := "queueNil", inPlace := ["slices.overlaps[giro/queue.entry[int]]", "maps.clone"], unfollowed := true, recurses := true, apart := false }
def QueueNilSaid : Prop := queueNilRow.holds Try.pinned (OpenSpec.ofChange queueNilSpec)

/-- ITS FALSE NEIGHBOUR: 'it returns false'. Refute it at one input. -/
def queueNilWrong : ChangeSpec := { name := "queueNil", fn := fun _ => fun
  | [d] => { results := [.lit (.bool false)], args := [d] }
  | _ => none }
def QueueNilWrongFalsely : Prop := queueNilRow.holds Try.pinned (OpenSpec.ofChange queueNilWrong)

/- THE SECOND FORM. 'bulk': how many values and letters a reading holds, each counted each time it is reached (what is shared counts as often as it is met; a slice's spare places count too). A statement '..UptoSaid' is the law's where the arguments, and the package variables that the reading takes, are together of bulk at most 1048576: NARROWER than '..Said'. Prove '..Said' where nothing that the law and all that it calls make is longer than what came in: it says more and counts as full. Else prove '..UptoSaid'. A law counts once. -/
mutual
def uptoBulk {H : Type} : DataW H → Nat
  | .lit (.string bytes) => bytes.length + 1
  | .lit _ => 1
  | .nil => 1
  | .ptr d => uptoBulk d + 1
  | .slice elems spare => uptoBulkAll elems + uptoBulkAll spare + 1
  | .agg parts => uptoBulkAll parts + 1
  | .iface _ d => uptoBulk d + 1
  | .map entries => uptoBulkEntries entries + 1
  | .held _ => 1
def uptoBulkAll {H : Type} : List (DataW H) → Nat
  | [] => 0
  | d :: r => uptoBulk d + uptoBulkAll r
def uptoBulkEntries {H : Type} : List (Lit × DataW H) → Nat
  | [] => 0
  | x :: r => uptoBulkEntry x + uptoBulkEntries r
def uptoBulkEntry {H : Type} : Lit × DataW H → Nat
  | (.string bytes, d) => bytes.length + uptoBulk d + 1
  | (_, d) => uptoBulk d + 1
 end
def uptoSmall : (H : Type) → List (DataW H) → Bool := fun _ ds => decide (uptoBulkAll ds ≤ 1048576)
def OpenSpec.upto (s : _root_.Go.ChangeSpec) : _root_.Go.OpenSpec := { _root_.Go.OpenSpec.ofChange s with cond := some uptoSmall }

/-- 'girolaw26.QueueCompare', WHERE WHAT IT READS IS OF BULK AT MOST 1048576: true; the input reads as it did. -/
def queueCompareUptoRow : OpenClaim := { program := "ytmimfhjmhlmibaa", sum := "bf741f0b6c65ddd9673e47984c71ac72a0c9d63493331469b1ed9262aa2d04d4", func := "giro/girolaw26.QueueCompare", spec := "queueCompare", inPlace := ["slices.overlaps[giro/queue.entry[int]]"], unfollowed := true, recurses := true, apart := false, narrowed := true }
def QueueCompareUptoSaid : Prop := queueCompareUptoRow.holds Try.pinned (OpenSpec.upto queueCompareSpec)

/-- 'girolaw26.QueueText', WHERE WHAT IT READS IS OF BULK AT MOST 1048576: true; the input reads as it did. -/
def queueTextUptoRow : OpenClaim := { program := "ytmimfhjmhlmibaa", sum := "bf741f0b6c65ddd9673e47984c71ac72a0c9d63493331469b1ed9262aa2d04d4", func := "giro/girolaw26.QueueText", spec := "queueText", inPlace := ["slices.overlaps[giro/queue.entry[int]]", "slices.overlaps[giro/queue.entry[string]]"], unfollowed := true, recurses := true, apart := false, narrowed := true }
def QueueTextUptoSaid : Prop := queueTextUptoRow.holds Try.pinned (OpenSpec.upto queueTextSpec)

/-- 'girolaw26.QueueWhere', WHERE WHAT IT READS IS OF BULK AT MOST 1048576: true; the input reads as it did. -/
def queueWhereUptoRow : OpenClaim := { program := "ytmimfhjmhlmibaa", sum := "bf741f0b6c65ddd9673e47984c71ac72a0c9d63493331469b1ed9262aa2d04d4", func := "giro/girolaw26.QueueWhere", spec := "queueWhere", inPlace := ["slices.overlaps[giro/queue.entry[int]]"], unfollowed := true, recurses := true, apart := false, narrowed := true }
def QueueWhereUptoSaid : Prop := queueWhereUptoRow.holds Try.pinned (OpenSpec.upto queueWhereSpec)

/-- 'girolaw26.QueueChanging', WHERE WHAT IT READS IS OF BULK AT MOST 1048576: true; the input reads as it did. -/
def queueChangingUptoRow : OpenClaim := { program := "ytmimfhjmhlmibaa", sum := "bf741f0b6c65ddd9673e47984c71ac72a0c9d63493331469b1ed9262aa2d04d4", func := "giro/girolaw26.QueueChanging", spec := "queueChanging", inPlace := ["slices.overlaps[giro/queue.entry[int]]"], unfollowed := true, recurses := true, apart := false, narrowed := true }
def QueueChangingUptoSaid : Prop := queueChangingUptoRow.holds Try.pinned (OpenSpec.upto queueChangingSpec)

/-- 'girolaw26.QueueOperations', WHERE WHAT IT READS IS OF BULK AT MOST 1048576: true; the input reads as it did. -/
def queueOperationsUptoRow : OpenClaim := { program := "ytmimfhjmhlmibaa", sum := "bf741f0b6c65ddd9673e47984c71ac72a0c9d63493331469b1ed9262aa2d04d4", func := "giro/girolaw26.QueueOperations", spec := "queueOperations", inPlace := ["slices.overlaps[giro/queue.entry[int]]"], unfollowed := true, recurses := true, apart := false, narrowed := true }
def QueueOperationsUptoSaid : Prop := queueOperationsUptoRow.holds Try.pinned (OpenSpec.upto queueOperationsSpec)

/-- 'girolaw26.QueueFifo', WHERE WHAT IT READS IS OF BULK AT MOST 1048576: true; the input reads as it did. -/
def queueFifoUptoRow : OpenClaim := { program := "ytmimfhjmhlmibaa", sum := "bf741f0b6c65ddd9673e47984c71ac72a0c9d63493331469b1ed9262aa2d04d4", func := "giro/girolaw26.QueueFifo", spec := "queueFifo", inPlace := ["slices.overlaps[giro/queue.entry[int]]"], unfollowed := true, recurses := true, apart := false, narrowed := true }
def QueueFifoUptoSaid : Prop := queueFifoUptoRow.holds Try.pinned (OpenSpec.upto queueFifoSpec)

/-- 'girolaw26.QueueStable', WHERE WHAT IT READS IS OF BULK AT MOST 1048576: true; the input reads as it did. -/
def queueStableUptoRow : OpenClaim := { program := "ytmimfhjmhlmibaa", sum := "bf741f0b6c65ddd9673e47984c71ac72a0c9d63493331469b1ed9262aa2d04d4", func := "giro/girolaw26.QueueStable", spec := "queueStable", inPlace := ["slices.overlaps[giro/queue.entry[int]]"], unfollowed := true, recurses := true, apart := false, narrowed := true }
def QueueStableUptoSaid : Prop := queueStableUptoRow.holds Try.pinned (OpenSpec.upto queueStableSpec)

/-- 'girolaw26.QueueClones', WHERE WHAT IT READS IS OF BULK AT MOST 1048576: true; the input reads as it did. -/
def queueClonesUptoRow : OpenClaim := { program := "ytmimfhjmhlmibaa", sum := "bf741f0b6c65ddd9673e47984c71ac72a0c9d63493331469b1ed9262aa2d04d4", func := "giro/girolaw26.QueueClones", spec := "queueClones", inPlace := ["slices.overlaps[giro/queue.entry[int]]", "maps.clone"], unfollowed := true, recurses := true, apart := false, narrowed := true }
def QueueClonesUptoSaid : Prop := queueClonesUptoRow.holds Try.pinned (OpenSpec.upto queueClonesSpec)

/-- 'girolaw26.QueueNil', WHERE WHAT IT READS IS OF BULK AT MOST 1048576: true; the input reads as it did. -/
def queueNilUptoRow : OpenClaim := { program := "ytmimfhjmhlmibaa", sum := "bf741f0b6c65ddd9673e47984c71ac72a0c9d63493331469b1ed9262aa2d04d4", func := "giro/girolaw26.QueueNil", spec := "queueNil", inPlace := ["slices.overlaps[giro/queue.entry[int]]", "maps.clone"], unfollowed := true, recurses := true, apart := false, narrowed := true }
def QueueNilUptoSaid : Prop := queueNilUptoRow.holds Try.pinned (OpenSpec.upto queueNilSpec)

end Rows
end Go.Proofs.Ytmimfhjmhlmibaa
