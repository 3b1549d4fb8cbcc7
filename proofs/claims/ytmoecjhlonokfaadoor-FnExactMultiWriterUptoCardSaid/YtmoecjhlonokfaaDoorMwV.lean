/- The reference's look at sinks (ValidSinks); sameOps and sameLists return true where both sides read alike. -/
import Derived.Test.YtmoecjhlonokfaaDoorEls
import Derived.Test.YtmoecjhlonokfaaDoorSpec
import Derived.Test.YtmoecjhlonokfaaDoorSame
set_option linter.unusedVariables false
set_option linter.unusedSimpArgs false
namespace Go.Proofs.YtmoecjhlonokfaaDoor
open Go.RowKit

theorem validSinks_any {S : Nat → Prop} {w : World} {A : Option Addr} {zs : List Int} (c : Nat) (hl : zs.length ≤ 281474976710656) (h : IntsAt S w A zs) :
    Calls Tryd.prog 12 #[.slice A zs.length c] w (SomeBool (∀ i, i < zs.length → 0 ≤ nth zs i) w) := by
  have H := Lib.hid h
  clear h
  generalize hlen : zs.length = len at *
  have HL := Lib.hid hlen
  clear hlen
  go_enter Tryd.func12, Tryd.ntmps12
  go_wp2
  go_loopg [3] len (fun f i wr => ∃ k : Nat, k ≤ len ∧ f = len - k ∧ i = .int .i64 k ∧ Hid (∀ j, j < k → 0 ≤ nth zs j) ∧ wr = w)
  case atStart => exact ⟨0, Nat.zero_le _, by omega, rfl, Lib.hid fun j hj => absurd hj (by omega), rfl⟩
  case round =>
    obtain ⟨k, hk, rfl, rfl, HT, rfl⟩ := hrel
    by_cases hlt : k < len
    · obtain ⟨ab, aoff, rfl, _, _, hcs⟩ := H.out (by rw [HL.out]; omega)
      have g2 := hcs k (by rw [HL.out]; omega)
      clear hcs
      generalize hz : nth zs k = z at *
      have HZ := Lib.hid hz
      clear hz
      by_cases hz0 : z < 0
      · go_wp2
        go_ret
        exact ⟨false, rfl, (fun h => by cases h), Below.refl _ _⟩
      · go_wp2
        go_roundg (len - (k + 1))
        case measure => omega
        case rel =>
          refine ⟨k + 1, by omega, rfl, by go_num, Lib.hid fun j hj => ?_, rfl⟩
          by_cases hjk : j < k
          · exact HT.out j hjk
          · obtain rfl : j = k := by omega
            rw [HZ.out]; omega
    · go_wp2
      go_ret
      exact ⟨true, rfl, fun _ i hi => HT.out i (by omega), Below.refl _ _⟩

set_option maxHeartbeats 1000000 in
set_option maxRecDepth 100000 in
theorem sameLists_eq {S S' : Nat → Prop} {w : World} {A A' : Option Addr} {l : List (List Int)} (c c' : Nat) (hl : l.length ≤ 281474976710656) (hd : ∀ x ∈ l, x.length ≤ 281474976710656)
    (h : ElsAt ElB 1 S w A l) (h' : ElsAt ElB 1 S' w A' l) :
    Calls Tryd.prog 16 #[.slice A l.length c, .slice A' l.length c'] w fun e w' => e = .returned (.bool true) ∧ ∃ n, w' = w.drewN n := by
  have H := Lib.hid h
  have H' := Lib.hid h'
  have HD := Lib.hid hd
  clear h h' hd
  generalize hn : l.length = len at *
  have HN := Lib.hid hn
  clear hn
  go_enter Tryd.func16, Tryd.ntmps16
  go_wp2_with fail
  go_loopw [5] (fun i wr => ∃ k n : Nat, k ≤ len ∧ i = .int .i64 k ∧ wr = w.drewN n) (fun i _ => len - (intOf i).toNat)
  case atStart => exact ⟨0, 0, Nat.zero_le _, rfl, rfl⟩
  case round =>
    obtain ⟨k, n, hk, rfl, hw⟩ := hrel
    have HW := Lib.hid hw
    have H1 : ElsAt ElB 1 S wr A l := by rw [hw]; exact H.out.drewN mvB n
    have H1' : ElsAt ElB 1 S' wr A' l := by rw [hw]; exact H'.out.drewN mvB n
    clear hw
    by_cases hlt : k < len
    · obtain ⟨b, off, rfl, _, _, hc⟩ := H1.bytesAt (by rw [HN.out]; omega)
      obtain ⟨b', off', rfl, _, _, hc'⟩ := H1'.bytesAt (by rw [HN.out]; omega)
      obtain ⟨Ai, ci, g1, _, g4⟩ := hc k (by rw [HN.out]; omega)
      obtain ⟨Ai', ci', g1', _, g4'⟩ := hc' k (by rw [HN.out]; omega)
      have HL : (l.getD k []).length ≤ 281474976710656 := HD.out _ (by rw [List.getD_eq_getElem?_getD, List.getElem?_eq_getElem (by rw [HN.out]; exact hlt)]; exact List.getElem_mem _)
      have C := Lib.hid fun q => sameBytes_eq ci ci' HL (g4.drewN q) (g4'.drewN q)
      generalize l.getD k [] = d at *
      clear hc hc' g4 g4' H1 H1'
      generalize d.length = dl at *
      go_wp2_with fail
      go_quiet (first | (go_at_call 18; exact Calls.quiet_of (C.out _)))
      go_wp2_with fail
      go_roundw
      case rel => exact ⟨k + 1, _, by omega, by go_num, by rw [HW.out, World.drewN_drewN]⟩
      case measure => simp [intOf]; omega
    · go_wp2_with fail
      go_ret
      exact ⟨rfl, n, HW.out⟩

set_option maxHeartbeats 1000000 in
set_option maxRecDepth 100000 in
theorem sameOps_eq {S S' : Nat → Prop} {w : World} {A A' : Option Addr} {l : List (List Int × Int × Int)} (c c' : Nat) (hl : l.length ≤ 281474976710656) (hd : ∀ x ∈ l, x.1.length ≤ 281474976710656)
    (h : ElsAt ElO 3 S w A l) (h' : ElsAt ElO 3 S' w A' l) :
    Calls Tryd.prog 15 #[.slice A l.length c, .slice A' l.length c'] w fun e w' => e = .returned (.bool true) ∧ ∃ n, w' = w.drewN n := by
  have H := Lib.hid h
  have H' := Lib.hid h'
  have HD := Lib.hid hd
  clear h h' hd
  generalize hn : l.length = len at *
  have HN := Lib.hid hn
  clear hn
  go_enter Tryd.func15, Tryd.ntmps15
  go_wp2_with fail
  go_loopw [5] (fun i wr => ∃ k n : Nat, k ≤ len ∧ i = .int .i64 k ∧ wr = w.drewN n) (fun i _ => len - (intOf i).toNat)
  case atStart => exact ⟨0, 0, Nat.zero_le _, rfl, rfl⟩
  case round =>
    obtain ⟨k, n, hk, rfl, hw⟩ := hrel
    have HW := Lib.hid hw
    have H1 : ElsAt ElO 3 S wr A l := by rw [hw]; exact H.out.drewN mvO n
    have H1' : ElsAt ElO 3 S' wr A' l := by rw [hw]; exact H'.out.drewN mvO n
    clear hw
    by_cases hlt : k < len
    · obtain ⟨b, off, rfl, _, _, hc⟩ := H1.opsAt (by rw [HN.out]; omega)
      obtain ⟨b', off', rfl, _, _, hc'⟩ := H1'.opsAt (by rw [HN.out]; omega)
      obtain ⟨Ai, ci, g1, g2, g3, _, g4⟩ := hc k (by rw [HN.out]; omega)
      obtain ⟨Ai', ci', g1', g2', g3', _, g4'⟩ := hc' k (by rw [HN.out]; omega)
      have HL : (l.getD k ([], 0, 0)).1.length ≤ 281474976710656 := HD.out _ (by rw [List.getD_eq_getElem?_getD, List.getElem?_eq_getElem (by rw [HN.out]; exact hlt)]; exact List.getElem_mem _)
      have C := Lib.hid fun q => sameBytes_eq ci ci' HL (g4.drewN q) (g4'.drewN q)
      generalize l.getD k ([], 0, 0) = x at *
      obtain ⟨d, nn, ne⟩ := x
      simp only at g1 g2 g3 g1' g2' g3' C HL
      clear hc hc' g4 g4' H1 H1'
      generalize d.length = dl at *
      go_wp2_with fail
      go_quiet (first | (go_at_call 18; exact Calls.quiet_of (C.out _)))
      go_wp2_with fail
      go_roundw
      case rel => exact ⟨k + 1, _, by omega, by go_num, by rw [HW.out, World.drewN_drewN]⟩
      case measure => simp [intOf]; omega
    · go_wp2_with fail
      go_ret
      exact ⟨rfl, n, HW.out⟩

end Go.Proofs.YtmoecjhlonokfaaDoor
