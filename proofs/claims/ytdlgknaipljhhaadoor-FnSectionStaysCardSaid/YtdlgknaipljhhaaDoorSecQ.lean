/- Plain answers of some scripts of operations on a section; rows of operations that stand in the text. -/
import Derived.Test.YtdlgknaipljhhaaDoorSecP
import Derived.Test.YtdlgknaipljhhaaDoorEls
set_option linter.unusedVariables false
set_option linter.unusedSimpArgs false
namespace Go.Proofs.YtdlgknaipljhhaaDoor
open Go.RowKit

/-- operations as cells -/
def opsV : List (Int × Int × Int) → List Value
  | [] => []
  | x :: r => .int .i64 x.1 :: .int .i64 x.2.1 :: .int .i64 x.2.2 :: opsV r
theorem opsV_get : ∀ {ops : List (Int × Int × Int)} {i : Nat} (h : i < ops.length) (j : Nat), j < 3 → (opsV ops)[i * 3 + j]? = [Value.int .i64 (ops[i]).1, .int .i64 (ops[i]).2.1, .int .i64 (ops[i]).2.2][j]?
  | x :: r, 0, _, 0, _ => rfl
  | x :: r, 0, _, 1, _ => rfl
  | x :: r, 0, _, 2, _ => rfl
  | x :: r, i + 1, h, j, hj => by
    rw [show (i + 1) * 3 + j = i * 3 + j + 1 + 1 + 1 by omega, opsV, List.getElem?_cons_succ, List.getElem?_cons_succ, List.getElem?_cons_succ, opsV_get (by simpa using h) j hj]
    rfl

/-- a row of operations that was just made -/
theorem ops_new (w : World) (t : TypeId) (ops : List (Int × Int × Int)) (cs : Array Value) (hcs : cs = (opsV ops).toArray) : ElsAt ElP 3 (fun j => w.heap.size ≤ j) (w.alloc (.cells cs t)) (some ⟨w.heap.size, 0, none⟩) ops := fun hl => by
  subst hcs
  refine ⟨w.heap.size, 0, rfl, Nat.le_refl _, by simp, fun i hi => ⟨_, rfl, fun j hj => ?_, rfl⟩⟩
  rw [Nat.zero_add, (Blk.new w t _).cell]
  have := opsV_get hi j hj
  simpa using this

theorem partOf_all (all : List Int) (m : Nat) (h : all.length ≤ m) : partOf all 0 m = all := by
  unfold partOf
  rw [List.drop_zero, List.take_of_length_le h]

theorem sec_all {all : List Int} {n : Nat} (h : all.length = n) : ∃ x, opRuns all [(3, 0, 0), (1, (n : Int), 0), (1, (n : Int) + 1, 0)] 0 = [([], (n : Int), 0), (all, (n : Int), x), (all, (n : Int), 1)] := by
  have e1 := partOf_all all n (by omega)
  have e2 := partOf_all all (n + 1) (by omega)
  have e3 : ((n : Int) + 1).toNat = n + 1 := by omega
  refine ⟨(opStep all 0 (1, (n : Int), 0)).1.2.2, ?_⟩
  simp only [opRuns, opStep]
  simp [e1, e2, e3, h]
  omega

theorem sec_bad {all : List Int} : ∃ d x y, opRuns all [(0, 1, 0), (2, -1, 0), (2, 0, 3), (2, 0, 1)] 0 = [(d, y, x), ([], 0, 7), ([], 0, 7), ([], y, 0)] := by
  refine ⟨(opStep all 0 (0, 1, 0)).1.1, (opStep all 0 (0, 1, 0)).1.2.2, (opStep all 0 (0, 1, 0)).1.2.1, ?_⟩
  simp only [opRuns, opStep, seekTo]
  simp
  rw [if_neg (by omega)]

theorem sec_seekR {all : List Int} {n k : Nat} (h : all.length = n) (hk : k ≤ n) : ∃ x y, opRuns all [(2, (k : Int), 0), (0, 5, 0), (2, (k : Int) - (n : Int), 2), (2, 0, 1)] 0 = [([], (k : Int), 0), (partOf all k 5, y, x), ([], (k : Int), 0), ([], (k : Int), 0)] := by
  refine ⟨(opStep all k (0, 5, 0)).1.2.2, (opStep all k (0, 5, 0)).1.2.1, ?_⟩
  have e1 : ¬ ((k : Int) < 0) := by omega
  have e2 : (k : Int) - (n : Int) + (n : Int) = (k : Int) := by omega
  simp only [opRuns, opStep, seekTo, h]
  simp [e1, e2]

end Go.Proofs.YtdlgknaipljhhaaDoor
