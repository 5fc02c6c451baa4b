/- reference.zzIndexRune, zzContainsRune, zzIndexAny, zzContainsAny over texts of bytes below 128. -/
import Derived.Test.YtjlbljajgkiniaaDoorWk
import Derived.Lib.OthersKept
import Derived.WalkSmall
namespace Go.Proofs.YtjlbljajgkiniaaDoor
open Go.RowKit

theorem iter_start (w : World) (s : ByteArray) : (w.iter s 0).heap[w.heap.size]? = some (.stringIter s 0) ∧ Below w.heap.size w (w.iter s 0) :=
  ⟨World.iter_heap w s 0, (Below.refl _ w).alloc (Nat.le_refl _) _⟩

end Go.Proofs.YtjlbljajgkiniaaDoor
