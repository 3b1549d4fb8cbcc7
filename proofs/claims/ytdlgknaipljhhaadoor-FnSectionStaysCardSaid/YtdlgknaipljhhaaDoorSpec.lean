/- The reference's looks at sources and sizes: ValidSource, ValidSizes, Last, Bytes. -/
import Derived.Test.YtdlgknaipljhhaaDoorPlain
import Derived.Test.YtdlgknaipljhhaaDoorApp
import Derived.Test.YtdlgknaipljhhaaDoorProg
import Derived.Deep.LoopGhost
import Derived.Outline
import Derived.KernelRfl
set_option linter.unusedVariables false
set_option linter.unusedSimpArgs false
namespace Go.Proofs.YtdlgknaipljhhaaDoor
open Go.RowKit

theorem errAt_eq (l : List (List Int × Int)) (i : Nat) : errAt l i = err l i := rfl

/-- a call that returns some bool: if true, then p; nothing old is changed -/
def SomeBool (p : Prop) (w : World) (e : Ending) (w' : World) : Prop := ∃ v : Bool, e = .returned (.bool v) ∧ (v = true → p) ∧ Below w.heap.size w w'

theorem nth_def (l : List Int) (j : Nat) : l.getD j 0 = nth l j := rfl
theorem sum_take {zs : List Int} {k : Nat} (h : k < zs.length) : (zs.take (k + 1)).sum = (zs.take k).sum + nth zs k := by
  rw [List.take_succ_eq_append_getElem h, List.sum_append, nth_get h]; simp

/-- a result that is bytes in new memory -/
def BytesPost (l : List Int) (w : World) (e : Ending) (w' : World) : Prop := ∃ A c, e = .returned (.slice A l.length c) ∧ l.length ≤ c ∧ BytesAt (fun j => w.heap.size ≤ j) w' A l ∧ Below w.heap.size w w'

theorem infoU8' : (Tryd.prog.info? 5).map (fun i => (i.zero, i.size, i.bytes)) = some (some (.int .u8 0), 1, 1) := by kernel_rfl

theorem dat_def (l : List (List Int × Int)) (k : Nat) : (l.getD k ([], 0)).1 = dat l k := rfl
theorem joinD_take' {l : List (List Int × Int)} {k : Nat} (h : k < l.length) : joinD (l.take (k + 1)) = joinD (l.take k) ++ dat l k := joinD_take h
theorem bytesV_append (l r : List Int) : bytesV (l ++ r) = bytesV l ++ bytesV r := by simp [bytesV]

/-- a row of bytes of the call's own is a result -/
theorem bytesPost_of {l : List Int} {w wr : World} {A : Option Addr} {n c : Nat} {base : Nat} {e : TypeId} (hn : l.length = n) (hb : w.heap.size ≤ base) (hown : wr.ownsRow base e 1 (.slice A n c) n (bytesV l)) (hbel : Below w.heap.size w wr) : BytesPost l w (.returned (.slice A n c)) wr := by
  subst hn
  refine ⟨A, c, rfl, own_cap hown, (own_bytes hown).mono fun k _ hk => ?_, hbel⟩
  have := (own_block_lt hown hk).1
  omega

end Go.Proofs.YtdlgknaipljhhaaDoor
