/- sameGot, sameGots return true where both sides read alike; they change nothing. -/
import Derived.Test.YteljcdlnfjeaaaaDoorSame
set_option linter.unusedVariables false
set_option linter.unusedSimpArgs false
namespace Go.Proofs.YteljcdlnfjeaaaaDoor
open Go.RowKit

theorem sameGot_eq {S S' : Nat → Prop} {w : World} {A A' : Option Addr} {l : List Int} (x : Int) (c c' : Nat) (hl : l.length ≤ 281474976710656) (h : BytesAt S w A l) (h' : BytesAt S' w A' l) :
    Calls Tryd.prog 21 #[.agg #[.slice A l.length c, .int .i64 x], .agg #[.slice A' l.length c', .int .i64 x]] w fun e w' => e = .returned (.bool true) ∧ Below w.heap.size w w' := by
  have C := fun o o' : Obj => Lib.hid (sameBytes_eq c c' hl ((h.alloc o).alloc o') ((h'.alloc o).alloc o'))
  clear h h'
  go_enter Tryd.func21, Tryd.ntmps21
  go_wp2_with fail
  refine (C _ _).out.mono ?_
  rintro e w' ⟨rfl, n, rfl⟩
  go_wp2_with fail
  go_ret
  exact ⟨rfl, below_drewN (((Below.refl _ _).alloc (Nat.le_refl _) _).alloc (by simp) _) _⟩

set_option maxRecDepth 100000 in
theorem sameGots_eq {S S' : Nat → Prop} {w : World} {A A' : Option Addr} {l : List (List Int × Int)} (c c' : Nat) (hl : l.length ≤ 281474976710656) (hd : ∀ i, i < l.length → (dat l i).length ≤ 281474976710656)
    (h : RecsAt S w A l) (h' : RecsAt S' w A' l) :
    Calls Tryd.prog 26 #[.slice A l.length c, .slice A' l.length c'] w fun e w' => e = .returned (.bool true) ∧ Below w.heap.size w w' := by
  have H := Lib.hid (h.mono (S' := (· < w.heap.size)) fun k hk _ => hk)
  have H' := Lib.hid (h'.mono (S' := (· < w.heap.size)) fun k hk _ => hk)
  have HD := Lib.hid hd
  clear h h' hd
  generalize hn : l.length = len at *
  have HN := Lib.hid hn
  clear hn
  go_enter Tryd.func26, Tryd.ntmps26
  go_wp2
  go_loopw [5] (fun i wr => ∃ k : Nat, k ≤ len ∧ i = .int .i64 k ∧ Below w.heap.size w wr) (fun i _ => len - (intOf i).toNat)
  case atStart => exact ⟨0, Nat.zero_le _, rfl, Below.refl _ _⟩
  case round =>
    obtain ⟨k, hk, rfl, hb⟩ := hrel
    by_cases hlt : k < len
    · obtain ⟨b, off, rfl, _, _, hc⟩ := H.out.below hb (by rw [HN.out]; omega)
      obtain ⟨b', off', rfl, _, _, hc'⟩ := H'.out.below hb (by rw [HN.out]; omega)
      obtain ⟨Ai, ci, g1, g2, _, g3⟩ := hc k (by rw [HN.out]; omega)
      obtain ⟨Ai', ci', g1', g2', _, g3'⟩ := hc' k (by rw [HN.out]; omega)
      have HL := HD.out k hlt
      have C := Lib.hid (sameGot_eq (err l k) ci ci' HL g3.drew g3'.drew)
      clear hc hc' g3 g3' HL
      go_wp2
      go_still_tail 8, (by kernel_rfl)
      change wpList _ _ _ _ _ wr.drew
      go_wp2_with fail
      refine C.out.mono ?_
      rintro e w' ⟨rfl, hb'⟩
      go_wp2
      go_roundw
      case rel => exact ⟨k + 1, by omega, by go_num, hb.drew.trans (hb'.mono hb.size)⟩
      case measure => simp [intOf]; omega
    · go_wp2
      go_ret
      exact ⟨rfl, hb⟩

end Go.Proofs.YteljcdlnfjeaaaaDoor
