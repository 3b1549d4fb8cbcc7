/- sameBytes, sameGot, sameGots return true where both sides read alike; they change nothing. -/
import Derived.Test.YteljcdlnfjeaaaaDoorWords
import Derived.Test.YteljcdlnfjeaaaaDoorProg
import Derived.Deep.QuietTactic
import Derived.BigQuiet
import Derived.StillTailTactics
import Derived.Outline
import Derived.KernelRfl
set_option linter.unusedVariables false
set_option linter.unusedSimpArgs false
namespace Go.Proofs.YteljcdlnfjeaaaaDoor
open Go.RowKit

theorem sameBytes_eq {S S' : Nat → Prop} {w : World} {A A' : Option Addr} {l : List Int} (c c' : Nat) (hl : l.length ≤ 281474976710656) (h : BytesAt S w A l) (h' : BytesAt S' w A' l) :
    Calls Tryd.prog 17 #[.slice A l.length c, .slice A' l.length c'] w fun e w' => e = .returned (.bool true) ∧ ∃ n, w' = w.drewN n := by
  have H := Lib.hid h
  have H' := Lib.hid h'
  clear h h'
  generalize hn : l.length = len at *
  have HN := Lib.hid hn
  clear hn
  go_enter Tryd.func17, Tryd.ntmps17
  go_wp2
  go_loopw [5] (fun i wr => ∃ k n : Nat, k ≤ len ∧ i = .int .i64 k ∧ wr = w.drewN n) (fun i _ => len - (intOf i).toNat)
  case atStart => exact ⟨0, 0, Nat.zero_le _, rfl, rfl⟩
  case round =>
    obtain ⟨k, n, hk, rfl, rfl⟩ := hrel
    by_cases hlt : k < len
    · obtain ⟨b, off, rfl, _, _, hc⟩ := H.out (by rw [HN.out]; omega)
      obtain ⟨b', off', rfl, _, _, hc'⟩ := H'.out (by rw [HN.out]; omega)
      have g := hc k (by rw [HN.out]; omega)
      have g' := hc' k (by rw [HN.out]; omega)
      clear hc hc'
      go_wp2
      go_quiet (fail)
      go_wp2
      go_roundw
      case rel => exact ⟨k + 1, _, by omega, by go_num, rfl⟩
      case measure => simp [intOf]; omega
    · go_wp2
      go_ret
      exact ⟨rfl, _, rfl⟩

end Go.Proofs.YteljcdlnfjeaaaaDoor
