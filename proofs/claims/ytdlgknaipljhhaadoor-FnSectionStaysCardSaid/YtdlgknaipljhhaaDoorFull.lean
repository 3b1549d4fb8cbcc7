/- impl.ReadFull: buffers filled one after the other, over the program's own reader. -/
import Derived.Test.YtdlgknaipljhhaaDoorRead
import Derived.Test.YtdlgknaipljhhaaDoorApp
import Derived.Test.YtdlgknaipljhhaaDoorLate
import Derived.Deep.RegionWith
import Derived.Deep.LoopGhost
import Derived.Deep.DrawnRows
import Derived.Test.YtdlgknaipljhhaaDoorSpec
import Derived.Deep.OwnRows
import Derived.Deep.RegionLaw
set_option linter.unusedVariables false
set_option linter.unusedSimpArgs false
namespace Go.Proofs.YtdlgknaipljhhaaDoor
open Go.RowKit

theorem make_bytes (n : Nat) (hn : n ≤ 281474976710656) :
    ∃ pc : List Value, pc.length = n ∧ ∀ w, (Instr.makeSlice 22 (.int .i64 (n : Int)) (.int .i64 (n : Int))).run Tryd.prog w = .ok (.slice (some ⟨w.heap.size, 0, none⟩) n n) (w.alloc (.cells pc.toArray 5)) := by
  refine ⟨(madeCells #[.int .u8 0] n).toList, by simp [size_madeCells], fun w => ?_⟩
  have := run_make_row' (P := Tryd.prog) 22 5 (.int .u8 0) 1 Tryd.underlying22 infoU8 rfl .i64 .i64 n (by omega) (by omega) w
  simpa using this

theorem slice_bytes_to (A : Option Addr) (len cap n : Nat) (hn : n ≤ cap) (w : World) :
    (Instr.slice 22 (.slice A len cap) none (some (.int .i64 (n : Int))) none).run Tryd.prog w = .ok (.slice A n cap) w := by
  obtain ⟨i0, hi, _, hs, _⟩ := info_parts infoU8
  exact slice_to (P := Tryd.prog) 22 (by rw [elemU8]; exact Tryd.underlying22) i0 (by rw [elemU8]; exact hi) A len cap n hn w

/-- bytes at the head of a block that is known whole -/
theorem blk_bytes {w : World} {g : Nat} {t : TypeId} {l : List Int} {r : List Value} (h : Blk w g t (bytesV l ++ r).toArray) : BytesAt (· = g) w (some ⟨g, 0, none⟩) l := fun hl => by
  refine ⟨g, 0, rfl, rfl, h.lt, fun j hj => ?_⟩
  rw [Nat.zero_add, h.cell]
  have : (bytesV l)[j]? = some (.int .u8 (nth l j)) := by rw [nth_get hj]; simp [bytesV, hj]
  simp [List.getElem?_append_left (show j < (bytesV l).length by rw [bytesV_length]; exact hj), this]

end Go.Proofs.YtdlgknaipljhhaaDoor
