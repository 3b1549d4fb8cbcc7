/- The reference's looks at a section and its operations: ValidSection, ValidOps; sameOps returns true where both sides read alike. -/
import Derived.Test.YtdlgknaipljhhaaDoorEls
import Derived.Test.YtdlgknaipljhhaaDoorSpec
import Derived.Test.YtdlgknaipljhhaaDoorSecP
import Derived.Test.YtdlgknaipljhhaaDoorSame
set_option linter.unusedVariables false
set_option linter.unusedSimpArgs false
namespace Go.Proofs.YtdlgknaipljhhaaDoor
open Go.RowKit

theorem validSection_any {w : World} (A : Option Addr) (len c : Nat) (hl : len ≤ 281474976710656) (off n : Int) :
    Calls Tryd.prog 12 #[.slice A len c, .int .i64 off, .int .i64 n] w (SomeBool (0 ≤ off ∧ 0 ≤ n ∧ off + n ≤ (len : Int)) w) := by
  by_cases h0 : 0 ≤ off
  · by_cases h1 : 0 ≤ n
    · by_cases h2 : off ≤ (len : Int)
      · by_cases h3 : n ≤ (len : Int) - off
        · have HR : Hid (0 ≤ off ∧ 0 ≤ n ∧ off + n ≤ (len : Int)) := Lib.hid ⟨h0, h1, by omega⟩
          go_enter Tryd.func12, Tryd.ntmps12
          go_wp2_with fail
          go_ret
          exact ⟨true, by first | rfl | simp, fun _ => HR.out, Below.refl _ _⟩
        · go_enter Tryd.func12, Tryd.ntmps12
          go_wp2_with fail
          go_ret
          exact ⟨false, by first | rfl | simp, (fun h => by cases h), Below.refl _ _⟩
      · go_enter Tryd.func12, Tryd.ntmps12
        go_wp2_with fail
        go_ret
        exact ⟨false, by first | rfl | simp, (fun h => by cases h), Below.refl _ _⟩
    · go_enter Tryd.func12, Tryd.ntmps12
      go_wp2_with fail
      go_ret
      exact ⟨false, by first | rfl | simp, (fun h => by cases h), Below.refl _ _⟩
  · go_enter Tryd.func12, Tryd.ntmps12
    go_wp2_with fail
    go_ret
    exact ⟨false, by first | rfl | simp, (fun h => by cases h), Below.refl _ _⟩

set_option maxHeartbeats 1000000 in
set_option maxRecDepth 100000 in
theorem validOps_any {S : Nat → Prop} {w : World} {A : Option Addr} {ops : List (Int × Int × Int)} (c : Nat) (hl : ops.length ≤ 281474976710656) (h : ElsAt ElP 3 S w A ops) :
    Calls Tryd.prog 13 #[.slice A ops.length c] w (SomeBool ((∀ op ∈ ops, OpOK op) ∧ ops.length ≤ 1048576) w) := by
  have H := Lib.hid (h.mono mvP (S' := (· < w.heap.size)) fun k hk _ => hk)
  clear h
  generalize hlen : ops.length = len at *
  have HL := Lib.hid hlen
  clear hlen
  by_cases hbig : 1048576 < len
  · have hbig' : (1048576 : Int) < (len : Int) := by omega
    go_enter Tryd.func13, Tryd.ntmps13
    go_wp2_with fail
    go_ret
    exact ⟨false, rfl, (fun h => by cases h), Below.refl _ _⟩
  have hbig' : ¬ (1048576 : Int) < (len : Int) := by omega
  go_enter Tryd.func13, Tryd.ntmps13
  go_wp2_with fail
  go_loopg [3, 4] len (fun f v i wr => ∃ (k : Nat) (t : Int), k ≤ len ∧ f = len - k ∧ i = .int .i64 k ∧ v = .int .i64 t ∧ 0 ≤ t ∧ t ≤ 1048576 ∧ (∀ j, j < k → OpOK (ops.getD j (0, 0, 0))) ∧ Below w.heap.size w wr)
  case atStart => exact ⟨0, 0, Nat.zero_le _, by omega, rfl, rfl, by omega, by omega, fun j hj => absurd hj (by omega), Below.refl _ _⟩
  case round =>
    obtain ⟨k, t, hk, rfl, rfl, rfl, ht0, ht1, hok, hb⟩ := hrel
    have HOK := Lib.hid hok
    have HB := Lib.hid hb
    clear hok hb
    by_cases hlt : k < len
    · obtain ⟨ab, aoff, rfl, _, hab, hcs⟩ := (H.out.below mvP HB.out).opAt (by rw [HL.out]; omega)
      obtain ⟨o1, o2, o3⟩ := hcs k (by rw [HL.out]; omega)
      generalize hop : ops.getD k (0, 0, 0) = op at *
      have HOP := Lib.hid hop
      obtain ⟨kd, a, b⟩ := op
      simp only at o1 o2 o3
      clear hcs hop
      by_cases h0 : kd = 0
      · subst h0
        by_cases ha0 : a < 0
        · go_wp2_with fail
          go_ret
          exact ⟨false, rfl, (fun h => by cases h), HB.out.alloc HB.out.size _⟩
        · by_cases ha1 : 1048576 < a
          · go_wp2_with fail
            go_ret
            exact ⟨false, rfl, (fun h => by cases h), HB.out.alloc HB.out.size _⟩
          · by_cases ha2 : 1048576 < t + a
            · go_wp2_with fail
              go_ret
              exact ⟨false, rfl, (fun h => by cases h), HB.out.alloc HB.out.size _⟩
            · have hst : Hid (OpOK (ops.getD k (0, 0, 0))) := Lib.hid (by rw [HOP.out]; unfold OpOK; first | exact .inl ⟨rfl, by simp only; omega, by simp only; omega⟩ | exact .inr (.inl ⟨rfl, by simp only; omega, by simp only; omega, by simp only; omega, by simp only; omega⟩) | exact .inr (.inr (.inl ⟨rfl, by simp only; omega, by simp only; omega⟩)) | exact .inr (.inr (.inr rfl)))
              go_wp2_with fail
              go_roundg (len - (k + 1))
              case measure => omega
              case rel =>
                refine ⟨k + 1, t + a, by omega, rfl, by go_num, by go_num, by omega, by omega, fun j hj => ?_, HB.out.alloc HB.out.size _⟩
                by_cases hjk : j < k
                · exact HOK.out j hjk
                · obtain rfl : j = k := by omega
                  exact hst.out
      by_cases h1 : kd = 1
      · subst h1
        by_cases ha0 : a < 0
        · go_wp2_with fail
          go_ret
          exact ⟨false, rfl, (fun h => by cases h), HB.out.alloc HB.out.size _⟩
        · by_cases ha1 : 1048576 < a
          · go_wp2_with fail
            go_ret
            exact ⟨false, rfl, (fun h => by cases h), HB.out.alloc HB.out.size _⟩
          · by_cases hb0 : b < 0
            · go_wp2_with fail
              go_ret
              exact ⟨false, rfl, (fun h => by cases h), HB.out.alloc HB.out.size _⟩
            · by_cases hb1 : 1048576 < b
              · go_wp2_with fail
                go_ret
                exact ⟨false, rfl, (fun h => by cases h), HB.out.alloc HB.out.size _⟩
              · by_cases ha2 : 1048576 < t + a
                · go_wp2_with fail
                  go_ret
                  exact ⟨false, rfl, (fun h => by cases h), HB.out.alloc HB.out.size _⟩
                · have hst : Hid (OpOK (ops.getD k (0, 0, 0))) := Lib.hid (by rw [HOP.out]; unfold OpOK; first | exact .inl ⟨rfl, by simp only; omega, by simp only; omega⟩ | exact .inr (.inl ⟨rfl, by simp only; omega, by simp only; omega, by simp only; omega, by simp only; omega⟩) | exact .inr (.inr (.inl ⟨rfl, by simp only; omega, by simp only; omega⟩)) | exact .inr (.inr (.inr rfl)))
                  go_wp2_with fail
                  go_roundg (len - (k + 1))
                  case measure => omega
                  case rel =>
                    refine ⟨k + 1, t + a, by omega, rfl, by go_num, by go_num, by omega, by omega, fun j hj => ?_, HB.out.alloc HB.out.size _⟩
                    by_cases hjk : j < k
                    · exact HOK.out j hjk
                    · obtain rfl : j = k := by omega
                      exact hst.out
      by_cases h2 : kd = 2
      · subst h2
        by_cases ha0 : a < -1048576
        · go_wp2_with fail
          go_ret
          exact ⟨false, rfl, (fun h => by cases h), HB.out.alloc HB.out.size _⟩
        · by_cases ha1 : 1048576 < a
          · go_wp2_with fail
            go_ret
            exact ⟨false, rfl, (fun h => by cases h), HB.out.alloc HB.out.size _⟩
          · have hst : Hid (OpOK (ops.getD k (0, 0, 0))) := Lib.hid (by rw [HOP.out]; unfold OpOK; first | exact .inl ⟨rfl, by simp only; omega, by simp only; omega⟩ | exact .inr (.inl ⟨rfl, by simp only; omega, by simp only; omega, by simp only; omega, by simp only; omega⟩) | exact .inr (.inr (.inl ⟨rfl, by simp only; omega, by simp only; omega⟩)) | exact .inr (.inr (.inr rfl)))
            go_wp2_with fail
            go_roundg (len - (k + 1))
            case measure => omega
            case rel =>
              refine ⟨k + 1, t, by omega, rfl, by go_num, by go_num, by omega, by omega, fun j hj => ?_, HB.out.alloc HB.out.size _⟩
              by_cases hjk : j < k
              · exact HOK.out j hjk
              · obtain rfl : j = k := by omega
                exact hst.out
      by_cases h3 : kd = 3
      · subst h3
        have hst : Hid (OpOK (ops.getD k (0, 0, 0))) := Lib.hid (by rw [HOP.out]; unfold OpOK; first | exact .inl ⟨rfl, by simp only; omega, by simp only; omega⟩ | exact .inr (.inl ⟨rfl, by simp only; omega, by simp only; omega, by simp only; omega, by simp only; omega⟩) | exact .inr (.inr (.inl ⟨rfl, by simp only; omega, by simp only; omega⟩)) | exact .inr (.inr (.inr rfl)))
        go_wp2_with fail
        go_roundg (len - (k + 1))
        case measure => omega
        case rel =>
          refine ⟨k + 1, t, by omega, rfl, by go_num, by go_num, by omega, by omega, fun j hj => ?_, HB.out.alloc HB.out.size _⟩
          by_cases hjk : j < k
          · exact HOK.out j hjk
          · obtain rfl : j = k := by omega
            exact hst.out
      have e0 : (kd == 0) = false := by simp [h0]
      have e1 : (kd == 1) = false := by simp [h1]
      have e2 : (kd == 2) = false := by simp [h2]
      have e3 : (kd == 3) = false := by simp [h3]
      clear h0 h1 h2 h3
      go_wp2_with fail
      go_ret
      exact ⟨false, rfl, (fun h => by cases h), HB.out.alloc HB.out.size _⟩
    · have HK : Hid (k = len) := Lib.hid (by omega)
      go_wp2_with fail
      go_ret
      refine ⟨true, rfl, fun _ => ⟨fun op hop => ?_, by omega⟩, HB.out⟩
      obtain ⟨i, hi, rfl⟩ := List.getElem_of_mem hop
      have := HOK.out i (by have := HL.out; have := HK.out; omega)
      rwa [List.getD_eq_getElem?_getD, List.getElem?_eq_getElem hi] at this

set_option maxHeartbeats 1000000 in
set_option maxRecDepth 100000 in
theorem sameOps_eq {S S' : Nat → Prop} {w : World} {A A' : Option Addr} {l : List (List Int × Int × Int)} (c c' : Nat) (hl : l.length ≤ 281474976710656) (hd : ∀ x ∈ l, x.1.length ≤ 281474976710656)
    (h : ElsAt ElO 3 S w A l) (h' : ElsAt ElO 3 S' w A' l) :
    Calls Tryd.prog 15 #[.slice A l.length c, .slice A' l.length c'] w fun e w' => e = .returned (.bool true) ∧ ∃ n, w' = w.drewN n := by
  have H := Lib.hid h
  have H' := Lib.hid h'
  have HD := Lib.hid hd
  clear h h' hd
  generalize hn : l.length = len at *
  have HN := Lib.hid hn
  clear hn
  go_enter Tryd.func15, Tryd.ntmps15
  go_wp2_with fail
  go_loopw [5] (fun i wr => ∃ k n : Nat, k ≤ len ∧ i = .int .i64 k ∧ wr = w.drewN n) (fun i _ => len - (intOf i).toNat)
  case atStart => exact ⟨0, 0, Nat.zero_le _, rfl, rfl⟩
  case round =>
    obtain ⟨k, n, hk, rfl, hw⟩ := hrel
    have HW := Lib.hid hw
    have H1 : ElsAt ElO 3 S wr A l := by rw [hw]; exact H.out.drewN mvO n
    have H1' : ElsAt ElO 3 S' wr A' l := by rw [hw]; exact H'.out.drewN mvO n
    clear hw
    by_cases hlt : k < len
    · obtain ⟨b, off, rfl, _, _, hc⟩ := H1.opsAt (by rw [HN.out]; omega)
      obtain ⟨b', off', rfl, _, _, hc'⟩ := H1'.opsAt (by rw [HN.out]; omega)
      obtain ⟨Ai, ci, g1, g2, g3, _, g4⟩ := hc k (by rw [HN.out]; omega)
      obtain ⟨Ai', ci', g1', g2', g3', _, g4'⟩ := hc' k (by rw [HN.out]; omega)
      have HL : (l.getD k ([], 0, 0)).1.length ≤ 281474976710656 := HD.out _ (by rw [List.getD_eq_getElem?_getD, List.getElem?_eq_getElem (by rw [HN.out]; exact hlt)]; exact List.getElem_mem _)
      have C := Lib.hid fun q => sameBytes_eq ci ci' HL (g4.drewN q) (g4'.drewN q)
      generalize l.getD k ([], 0, 0) = x at *
      obtain ⟨d, nn, ne⟩ := x
      simp only at g1 g2 g3 g1' g2' g3' C HL
      clear hc hc' g4 g4' H1 H1'
      generalize d.length = dl at *
      go_wp2_with fail
      go_quiet (first | (go_at_call 14; exact Calls.quiet_of (C.out _)))
      go_wp2_with fail
      go_roundw
      case rel => exact ⟨k + 1, _, by omega, by go_num, by rw [HW.out, World.drewN_drewN]⟩
      case measure => simp [intOf]; omega
    · go_wp2_with fail
      go_ret
      exact ⟨rfl, n, HW.out⟩

end Go.Proofs.YtdlgknaipljhhaaDoor
