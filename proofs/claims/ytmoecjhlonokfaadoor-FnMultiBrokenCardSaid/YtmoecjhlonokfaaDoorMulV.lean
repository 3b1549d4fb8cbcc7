/- The reference's look at sources (ValidSources). -/
import Derived.Test.YtmoecjhlonokfaaDoorMultiR
import Derived.Test.YtmoecjhlonokfaaDoorSpec
set_option linter.unusedVariables false
set_option linter.unusedSimpArgs false
namespace Go.Proofs.YtmoecjhlonokfaaDoor
open Go.RowKit

set_option maxHeartbeats 1000000 in
set_option maxRecDepth 100000 in
theorem validSources_any {S : Nat → Prop} {w : World} {A : Option Addr} {ss : List (List (List Int × Int))} (c : Nat) (hl : ss.length ≤ 1048576) (hok : SrcsOK ss) (h : ElsAt ElS 1 S w A ss) :
    Calls Tryd.prog 19 #[.slice A ss.length c] w (SomeBool (ValidAll (srcs ss)) w) := by
  have H := Lib.hid (h.mono mvS (S' := (· < w.heap.size)) fun k hk _ => hk)
  have HOK := Lib.hid hok
  clear h hok
  generalize hlen : ss.length = n at *
  have HL := Lib.hid hlen
  clear hlen
  go_enter Tryd.func19, Tryd.ntmps19
  go_wp2_with fail
  go_loopg [3] n (fun f i wr => ∃ k : Nat, k ≤ n ∧ f = n - k ∧ i = .int .i64 k ∧ Hid (ValidAll (srcs (ss.take k))) ∧ Hid (Below w.heap.size w wr))
  case atStart => exact ⟨0, Nat.zero_le _, by omega, rfl, Lib.hid (fun t ht => by simp [srcs] at ht), Lib.hid (Below.refl _ _)⟩
  case round =>
    obtain ⟨k, hk, rfl, rfl, HT, HB⟩ := hrel
    have hszr := HB.out.size
    by_cases hlt : k < n
    · have hkl : k < ss.length := by rw [HL.out]; exact hlt
      obtain ⟨ab, aoff, rfl, _, hab, hcs⟩ := (H.out.below mvS HB.out).srcAt (by omega)
      obtain ⟨Ai, ci, g1, hci, hrec⟩ := hcs k hkl
      have hmem : ss.getD k [] ∈ ss := by rw [List.getD_eq_getElem?_getD, List.getElem?_eq_getElem hkl]; exact List.getElem_mem _
      have htk : srcs (ss.take (k + 1)) = srcs (ss.take k) ++ [(lastErr (ss.getD k []), ss.getD k [])] := by
        unfold srcs
        rw [List.take_succ_eq_append_getElem hkl, List.map_append]
        simp [hkl]
      obtain ⟨q1, _⟩ := HOK.out _ hmem
      clear hcs hmem
      generalize ss.getD k [] = st at *
      have HTK := Lib.hid htk
      have C := Lib.hid (validSource_any ci (by omega) hrec)
      clear htk hrec
      go_wp2_with fail
      refine C.out.mono ?_
      rintro e w1 ⟨v, rfl, hv, hb⟩
      have HV := Lib.hid hv
      have HB1 := Lib.hid (HB.out.trans (hb.mono hszr))
      clear hv hb C
      cases v with
      | false =>
        go_wp2_with fail
        go_ret
        exact ⟨false, rfl, (fun h => by cases h), HB1.out⟩
      | true =>
        have HVV := Lib.hid (HV.out rfl)
        clear HV
        go_wp2_with fail
        go_roundg (n - (k + 1))
        case measure => omega
        case rel =>
          refine ⟨k + 1, by omega, rfl, by go_num, Lib.hid fun t ht => ?_, HB1⟩
          rw [HTK.out] at ht
          rcases List.mem_append.1 ht with h | h
          · exact HT.out t h
          · obtain rfl := List.mem_singleton.1 h
            exact HVV.out
    · have htk : ss.take k = ss := List.take_of_length_le (by rw [HL.out]; omega)
      rw [htk] at HT
      go_wp2_with fail
      go_ret
      exact ⟨true, rfl, fun _ => HT.out, HB.out⟩

end Go.Proofs.YtmoecjhlonokfaaDoor
