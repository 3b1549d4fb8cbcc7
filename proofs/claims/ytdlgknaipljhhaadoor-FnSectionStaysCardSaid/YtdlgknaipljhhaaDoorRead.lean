/- The reader of a source: what its memory is, and what Read does to it. -/
import Derived.Test.YtdlgknaipljhhaaDoorWords
import Derived.Test.YtdlgknaipljhhaaDoorPlain
import Derived.Test.YtdlgknaipljhhaaDoorErr
import Derived.Deep.QuietTactic
import Derived.BigQuiet
import Derived.StillTailTactics
import Derived.Outline
set_option linter.unusedVariables false
set_option linter.unusedSimpArgs false
namespace Go.Proofs.YtdlgknaipljhhaaDoor
open Go.RowKit

theorem info5 : (Tryd.prog.info? 5).map (·.size) = some 1 := by kernel_rfl
theorem infoU8 : (Tryd.prog.info? 5).map (fun i => (i.zero, i.size, i.bytes)) = some (some (.int .u8 0), 1, 1) := by kernel_rfl
theorem elemU8 : Tryd.prog.elem 22 = 5 := by kernel_rfl

/-- x[n:] of bytes -/
theorem slice_bytes (A : Option Addr) (len cap n : Nat) (hn : n ≤ len) (hc : len ≤ cap) :
    ∃ A2 : Option Addr, (∀ w, (Instr.slice 22 (.slice A len cap) (some (.int .i64 (n : Int))) none none).run Tryd.prog w = .ok (.slice A2 (len - n) (cap - n)) w) ∧ (n < cap → A2 = A.map (·.add n)) := by
  obtain ⟨i0, hi, _, hs, _⟩ := info_parts infoU8
  obtain ⟨A2, h1, h2⟩ := slice_from (P := Tryd.prog) 22 (by rw [elemU8]; exact Tryd.underlying22) i0 1 (by rw [elemU8]; exact hi) hs A len cap n hn hc
  exact ⟨A2, h1, fun h => by rw [h2 h]; simp⟩
end Go.Proofs.YtdlgknaipljhhaaDoor
