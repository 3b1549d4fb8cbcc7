/- io.MultiWriter over the program's own sinks. -/
import Derived.Test.YtmoecjhlonokfaaDoorMw
import Derived.Deep.OwnRows
set_option linter.unusedVariables false
set_option linter.unusedSimpArgs false
namespace Go.Proofs.YtmoecjhlonokfaaDoor
open Go.RowKit

theorem infoWr : (Tryd.prog.info? 64).map (fun i => (i.zero, i.size, i.bytes)) = some (some .nilIface, 1, 16) := by kernel_rfl

theorem make_writers (n : Nat) (hn : n ≤ 1048576) : ∃ cs : Array Value, cs.size = n ∧ ∀ w, (Instr.makeSlice 59 (.int .i64 0) (.int .i64 (n : Int))).run Tryd.prog w = .ok (.slice (some ⟨w.heap.size, 0, none⟩) 0 n) (w.alloc (.cells cs 64)) := by
  obtain ⟨i, hi, hz, hs, hb⟩ := info_parts infoWr
  refine ⟨madeCells #[.nilIface] n, by simp [size_madeCells], fun w => ?_⟩
  have := run_make (P := Tryd.prog) w 59 64 i .nilIface Tryd.underlying59 hi hz .i64 .i64 0 (n : Int) (by omega) (by omega) (by rw [hb]; omega) (by omega)
  rw [hs] at this
  simpa [Value.cells] using this

/-- the sinks behind interfaces, and as pointers -/
def mwV (sb : Nat → Nat) (n : Nat) : List Value := (List.range n).map fun i => .iface 60 (.pointer (some ⟨sb i, 0, none⟩))
def ptrV (sb : Nat → Nat) (n : Nat) : List Value := (List.range n).map fun i => .pointer (some ⟨sb i, 0, none⟩)
theorem mwV_succ (sb : Nat → Nat) (n : Nat) : mwV sb (n + 1) = mwV sb n ++ [.iface 60 (.pointer (some ⟨sb n, 0, none⟩))] := by simp [mwV, List.range_succ]
theorem ptrV_succ (sb : Nat → Nat) (n : Nat) : ptrV sb (n + 1) = ptrV sb n ++ [.pointer (some ⟨sb n, 0, none⟩)] := by simp [ptrV, List.range_succ]
theorem mwV_get {sb : Nat → Nat} {n i : Nat} (h : i < n) : (mwV sb n)[i]? = some (.iface 60 (.pointer (some ⟨sb i, 0, none⟩))) := by simp [mwV, h]
theorem ptrV_get {sb : Nat → Nat} {n i : Nat} (h : i < n) : (ptrV sb n)[i]? = some (.pointer (some ⟨sb i, 0, none⟩)) := by simp [ptrV, h]
theorem mwV_congr {sb sb' : Nat → Nat} {n : Nat} (h : ∀ i, i < n → sb i = sb' i) : mwV sb n = mwV sb' n := by
  unfold mwV
  apply List.map_congr_left
  intro i hi
  rw [h i (List.mem_range.1 hi)]
theorem ptrV_congr {sb sb' : Nat → Nat} {n : Nat} (h : ∀ i, i < n → sb i = sb' i) : ptrV sb n = ptrV sb' n := by
  unfold ptrV
  apply List.map_congr_left
  intro i hi
  rw [h i (List.mem_range.1 hi)]

theorem writer_noMulti (v : Value) (w : World) : (Instr.typeAssert (.iface 60 v) 64 94 true).run Tryd.prog w = .ok (.tuple #[.pointer none, .bool false]) w := by kernel_rfl

/-- a new multiWriter -/
def MwNew (sb : Nat → Nat) (n : Nat) (w : World) (e : Ending) (w' : World) : Prop :=
  ∃ mb A' c', e = .returned (.iface 94 (.pointer (some ⟨mb, 0, none⟩))) ∧ w.heap.size ≤ mb ∧ Blk w' mb 97 #[.slice A' n c'] ∧ w'.ownsRow w.heap.size 64 1 (.slice A' n c') n (mwV sb n) ∧ Below w.heap.size w w'

set_option maxHeartbeats 1000000 in
set_option maxRecDepth 100000 in
theorem multiWriter_any {w : World} {sb : Nat → Nat} {A : Option Addr} {n ab : Nat} (c : Nat) (hn : n ≤ 1048576) (hA : 0 < n → A = some ⟨ab, 0, none⟩ ∧ ab < w.heap.size) (hcell : ∀ i, i < n → w.cell? ⟨ab, i, none⟩ = some (.iface 60 (.pointer (some ⟨sb i, 0, none⟩)))) :
    Calls Tryd.prog 28 #[.slice A n c] w (MwNew sb n w) := by
  obtain ⟨i1, hi1, hy0, hy1, hy2⟩ := info_parts infoWr
  obtain ⟨cs, hcs, hmk⟩ := make_writers n hn
  have HA := Lib.hid hA
  have HC := Lib.hid hcell
  have HO0 : Hid ((w.alloc (.cells cs 64)).ownsRow w.heap.size 64 1 (.slice (some ⟨w.heap.size, 0, none⟩) 0 n) 0 []) := Lib.hid (World.ownsRow_made w cs n (Nat.le_refl _) (by unfold maxLen; omega) (by omega))
  clear hA hcell hcs
  go_enter Tryd.func28, Tryd.ntmps28
  go_wp2_with fail
  go_loopg [3, 13] n (fun f v i wr => ∃ (k : Nat) (A' : Option Addr) (c' : Nat), k ≤ n ∧ f = n - k ∧ i = .int .i64 k ∧ v = .slice A' k c' ∧ Hid (wr.ownsRow w.heap.size 64 1 (.slice A' k c') k (mwV sb k)) ∧ Hid (Below w.heap.size w wr))
  case atStart => exact ⟨0, _, n, Nat.zero_le _, by omega, rfl, rfl, HO0, Lib.hid ((Below.refl _ _).alloc (Nat.le_refl _) _)⟩
  case round =>
    obtain ⟨k, A', c', hk, rfl, rfl, rfl, HO, HB⟩ := hrel
    have hszr := HB.out.size
    by_cases hlt : k < n
    · obtain ⟨hAe, habl⟩ := HA.out (by omega)
      subst hAe
      have g1 := (HB.out.cell (p := ⟨ab, k, none⟩) habl).trans (HC.out k hlt)
      have hta := writer_noMulti (.pointer (some ⟨sb k, 0, none⟩))
      go_wp2_with (at_builtin; refine wpList_append_gen _ rfl (.tmp 29) (.tmp 31) 59 rfl w.heap.size 64 i1 _ 1 16 Tryd.underlying59 hi1 hy0 hy1 hy2 rfl (by omega) _ k _ rfl (HO.out.alloc _) (some ⟨wr.heap.size, 0, none⟩) 1 1 [.iface 60 (.pointer (some ⟨sb k, 0, none⟩))] rfl (by rfl) ((Blk.new wr 64 #[.iface 60 (.pointer (some ⟨sb k, 0, none⟩))]).news 1) (by simp [Value.oneCell']) (by unfold maxLen; omega) (by omega) (by simp; omega) ?_)
      intro A2 c2 w2 hap
      have HO2 : Hid (w2.ownsRow w.heap.size 64 1 (.slice A2 (k + 1) c2) (k + 1) (mwV sb (k + 1))) := Lib.hid (by rw [mwV_succ]; exact hap.own)
      have HB2 : Hid (Below w.heap.size w w2) := Lib.hid ((HB.out.alloc hszr _).grown hap.grown (by simp; omega) fun j e => (own_block_lt HO.out e).1)
      clear hap
      go_wp2_with fail
      go_roundg (n - (k + 1))
      case measure => omega
      case rel => exact ⟨k + 1, A2, c2, by omega, rfl, by go_num, rfl, HO2, HB2⟩
    · have hkn : k = n := by omega
      subst hkn
      have HPO : Hid (MwNew sb k w (.returned (.iface 94 (.pointer (some ⟨wr.heap.size, 0, none⟩)))) (wr.alloc (.cells #[.slice A' k c'] 97))) := Lib.hid ⟨wr.heap.size, A', c', rfl, hszr, Blk.new _ _ _, HO.out.alloc _, HB.out.alloc hszr _⟩
      go_wp2_with fail
      go_ret
      exact HPO.out

end Go.Proofs.YtmoecjhlonokfaaDoor
