/- FnMultiWriterAll, walked: it returns true, and changes nothing that was there. -/
import Derived.Test.YtmoecjhlonokfaaDoorMwW
import Derived.Test.YtmoecjhlonokfaaDoorSMwW
import Derived.Test.YtmoecjhlonokfaaDoorMwV
import Derived.Test.YtmoecjhlonokfaaDoorMwQ
import Derived.Test.YtmoecjhlonokfaaDoorDrawW
import Derived.Test.YtmoecjhlonokfaaDoorLaw
import Derived.Deep.RegionHeld3
set_option linter.unusedVariables false
set_option linter.unusedSimpArgs false
namespace Go.Proofs.YtmoecjhlonokfaaDoor
open Go.RowKit

set_option maxHeartbeats 4000000 in
set_option maxRecDepth 100000 in
theorem multiWriterAll_walk {B : Nat} {S : Nat → Prop} {w : World} {E : Nat → Addr} (hE : Errs B w E) (hBw : B ≤ w.heap.size) {A : Option Addr} {l : List Int} (c : Nat) (h : BytesAt S w A l) (hb : ∀ j, 0 ≤ nth l j ∧ nth l j ≤ 255) :
    Calls Tryd.prog 5 #[.slice A l.length c] w (LawPost w) := by
  by_cases hl : 1048576 < l.length
  · have hl' : (1048576 : Int) < (l.length : Int) := by omega
    clear hE h hb
    go_enter Tryd.func5, Tryd.ntmps5
    go_wp2_with fail
    go_ret
    exact ⟨rfl, Below.refl _ _⟩
  · have hl' : ¬ (1048576 : Int) < (l.length : Int) := by omega
    have C0 := Lib.hid (drawWriter_any c h (by omega) (fun j _ => hb j))
    have HE := Lib.hid hE
    clear h hb hE hl
    generalize l.length = len at *
    go_enter Tryd.func5, Tryd.ntmps5
    go_wp2_with fail
    refine C0.out.mono ?_
    rintro e w0 ⟨lims, A0, c0, ps, A1, c1, rfl, hnl, hlb, hpl, hps, hpc, hZ, hP, hb0⟩
    clear C0
    have hsz0 := hb0.size
    have HZ := Lib.hid (hZ.mono (S' := (· < w0.heap.size)) fun k hk _ => hk)
    have HP := Lib.hid (hP.mono mvB (S' := (· < w0.heap.size)) fun k hk _ => hk)
    have HEa := Lib.hid (HE.out.below (hb0.mono hBw))
    have hBa : B ≤ w0.heap.size := Nat.le_trans hBw hsz0
    have HLB : Hid (∀ i, i < lims.length → nth lims i ≤ 9223372036854775807) := Lib.hid fun i hi => by
      have := hlb (nth lims i) (by rw [nth_get hi]; exact List.getElem_mem _)
      omega
    have hjl : ps.flatten.length ≤ 2800 := by have := flatten_le hps; omega
    have HPS := Lib.hid hps
    have HBA := Lib.hid hb0
    have HB0 : Hid (Below w0.heap.size w0 w0) := Lib.hid (Below.refl _ _)
    obtain ⟨i0, hi0, hz0, hz1, hz2⟩ := info_parts infoU8
    generalize hnp : ps.length = np at *
    have HNP := Lib.hid hnp
    generalize hnlx : lims.length = nl at *
    have HNL := Lib.hid hnlx
    clear hnp hnlx
    clear HE hZ hP hb0 hlb hps
    have hs0b := HBA.out.size
    go_wp2_with fail
    go_loopg [5, 6] np (fun f v i wr => ∃ (k n : Nat) (A' : Option Addr) (c' : Nat), k ≤ np ∧ f = np - k ∧ i = .int .i64 k ∧ v = .slice A' n c' ∧ Hid (n = (ps.take k).flatten.length) ∧ Hid (wr.ownsRow w0.heap.size 5 1 (.slice A' n c') n (bytesV (ps.take k).flatten)) ∧ Hid (Below w0.heap.size w0 wr))
    case atStart => exact ⟨0, 0, _, 0, Nat.zero_le _, by omega, rfl, rfl, Lib.hid (by simp), Lib.hid (by simpa [bytesV] using own_empty w0 w0.heap.size 5 1 (Nat.le_refl _)), Lib.hid ((Below.refl _ _).alloc (Nat.le_refl _) _)⟩
    case round =>
      obtain ⟨k, n, A', c', hk, rfl, rfl, rfl, HN, HO, HB⟩ := hrel
      have hszr := HB.out.size
      by_cases hlt : k < np
      · obtain ⟨pb, poff, rfl, hpbS, _, hpcs⟩ := (HP.out.below mvB HB.out).bytesAt (by rw [HNP.out]; omega)
        obtain ⟨Ap, cp, g1, hcp, hby⟩ := hpcs k (by rw [HNP.out]; exact hlt)
        have htk : (ps.take (k + 1)).flatten = (ps.take k).flatten ++ ps.getD k [] := by
          rw [List.take_succ_eq_append_getElem (by rw [HNP.out]; exact hlt), List.flatten_append]
          simp [HNP.out, hlt]
        have hle : (ps.take (k + 1)).flatten.length ≤ 2800 := by
          have : ps.flatten = (ps.take (k + 1)).flatten ++ (ps.drop (k + 1)).flatten := by rw [← List.flatten_append, List.take_append_drop]
          have := congrArg List.length this
          rw [List.length_append] at this
          omega
        rw [htk, List.length_append] at hle
        have hn := HN.out
        have HTK := Lib.hid htk
        have HBY := Lib.hid hby
        generalize ps.getD k [] = d at *
        have hnb : n + d.length ≤ 2800 := by omega
        clear hpcs hby htk hle hn
        go_wp2_with (at_builtin; refine wpList_append_gen _ rfl (.tmp 27) (.tmp 31) 31 rfl w0.heap.size 5 i0 _ 1 1 Tryd.underlying31 hi0 hz0 hz1 hz2 rfl (by omega) _ n _ rfl HO.out Ap d.length cp (bytesV d) rfl (by rw [bytesV_length]; omega) HBY.out.news (bytesV_one d) (by unfold maxLen; omega) (by omega) hszr ?_)
        intro A2 c2 w2 hap
        have HO2 : Hid (w2.ownsRow w0.heap.size 5 1 (.slice A2 (n + d.length) c2) (n + d.length) (bytesV (ps.take (k + 1)).flatten)) := Lib.hid (by rw [HTK.out, bytesV_append]; exact hap.own)
        have HB2 : Hid (Below w0.heap.size w0 w2) := Lib.hid (HB.out.grown hap.grown hszr fun j e => (own_block_lt HO.out e).1)
        have HN2 : Hid (n + d.length = (ps.take (k + 1)).flatten.length) := Lib.hid (by rw [HTK.out, List.length_append, ← HN.out])
        clear hap
        go_wp2_with fail
        go_roundg (np - (k + 1))
        case measure => omega
        case rel => exact ⟨k + 1, _, A2, c2, by omega, rfl, by go_num, rfl, HN2, HO2, HB2⟩
      · have hkt : ps.take k = ps := List.take_of_length_le (by rw [HNP.out]; omega)
        rw [hkt] at HN HO
        have hnb : n ≤ 2800 := by rw [HN.out]; exact hjl
        obtain ⟨w1, hw1⟩ : ∃ w1, w1 = wr := ⟨_, rfl⟩
        subst hw1
        clear hkt
        go_wp2_with fail
        go_loopg [7] nl (fun f i wx => ∃ k : Nat, k ≤ nl ∧ f = nl - k ∧ i = .int .i64 k ∧ Hid (∀ j, j < k → (n : Int) ≤ nth lims j) ∧ wx = w1)
        case atStart => exact ⟨0, Nat.zero_le _, by omega, rfl, Lib.hid fun j hj => absurd hj (by omega), rfl⟩
        case round =>
          obtain ⟨k2, hk2, rfl, rfl, HLE, hwe⟩ := hrel
          have hwe2 := hwe.symm
          clear hwe
          subst hwe2
          by_cases hlt2 : k2 < nl
          · obtain ⟨lb, loff, rfl, hlbS, _, hlc⟩ := HZ.out (by rw [HNL.out]; omega)
            have g2 := (HB.out.cell (p := ⟨lb, loff + k2, none⟩) hlbS).trans (hlc k2 (by rw [HNL.out]; exact hlt2))
            have hLL : Hid (nth lims k2 = nth lims k2) := Lib.hid rfl
            generalize hz : nth lims k2 = z at *
            have HZZ := Lib.hid hz
            clear hlc hz
            by_cases hzn : z < (n : Int)
            · go_wp2_with fail
              go_ret
              exact ⟨by first | rfl | simp, HBA.out.trans (HB.out.mono HBA.out.size)⟩
            · go_wp2_with fail
              go_roundg (nl - (k2 + 1))
              case measure => omega
              case rel =>
                refine ⟨k2 + 1, by omega, rfl, by go_num, Lib.hid fun j hj => ?_, rfl⟩
                by_cases hjk : j < k2
                · exact HLE.out j hjk
                · obtain rfl : j = k2 := by omega
                  rw [HZZ.out]; omega
          · have hroom : MwRoom ps.flatten.length (lims.map fun l => (l.toNat, ([] : List Int))) := fun t ht => by
              obtain ⟨z, hz, rfl⟩ := List.mem_map.1 ht
              obtain ⟨i, hi, rfl⟩ := List.getElem_of_mem hz
              have := HLE.out i (by rw [HNL.out] at hi; omega)
              rw [nth_get hi] at this
              have := HN.out
              simp only
              omega
            have hlims : ∀ i, i < lims.length → 0 ≤ nth lims i ∧ nth lims i ≤ 9223372036854775807 := fun i hi => ⟨by have := HLE.out i (by rw [HNL.out] at hi; omega); omega, HLB.out i (by rw [HNL.out] at hi; exact hi)⟩
            have HC := implMw_any (HEa.out.below (HB.out.mono hBa)) (Nat.le_trans hBa HB.out.size) c0 c1 (HZ.out.below HB.out) hlims (by rw [HNL.out]; omega) (HP.out.below mvB HB.out) (by rw [HNP.out]; omega) (by omega)
            obtain ⟨hr1, hr2⟩ := mwRuns_room hroom
            have hl2 := mwRuns_len2 ps (lims.map fun l => (l.toNat, ([] : List Int)))
            unfold MwiPost at HC
            rw [hr2, hl2, hr1, List.length_map, List.length_map, HNL.out, HNP.out] at HC
            have HC' := Lib.hid HC
            clear hroom hlims HC hr1 hr2 hl2
            go_wp2_with fail
            refine HC'.out.mono ?_
            rintro e w2 ⟨Aa, ca, Ax, cx, rfl, hca, hcx, hra, hxa, hb2⟩
            have HB2 : Hid (Below w0.heap.size w0 w2) := Lib.hid (HB.out.trans (hb2.mono HB.out.size))
            have HRA := Lib.hid hra
            have HXA := Lib.hid hxa
            have HOA := Lib.hid ((own_bytes HO.out).keep hb2.size fun j hj _ => hb2.block j hj)
            clear hra hxa hb2 HC'
            go_wp2_with fail
            go_loopg [10] np (fun f i wx => ∃ k nq : Nat, k ≤ np ∧ f = np - k ∧ i = .int .i64 k ∧ wx = w2.drewN nq)
            case atStart => exact ⟨0, 0, Nat.zero_le _, by omega, rfl, rfl⟩
            case round =>
              obtain ⟨k3, nq, hk3, rfl, rfl, hwr⟩ := hrel
              have HWR := Lib.hid hwr
              have HRR : ElsAt ElO 3 (fun j => w1.heap.size ≤ j) wr Aa ((ps.map fun p => (p.length, (0 : Int))).map fun x => (([] : List Int), (x.1 : Int), x.2)) := by rw [hwr]; exact HRA.out.drewN mvO nq
              have HBR : Hid (Below w0.heap.size w0 wr) := Lib.hid (by rw [hwr]; exact below_drewN HB2.out nq)
              clear hwr
              by_cases hlt3 : k3 < np
              · obtain ⟨ob, oo, rfl, _, _, hoc⟩ := HRR.opsAt (by rw [List.length_map, List.length_map, HNP.out]; omega)
                obtain ⟨_, _, _, q1, q2, _⟩ := hoc k3 (by rw [List.length_map, List.length_map, HNP.out]; exact hlt3)
                obtain ⟨pb, poff, rfl, hpbS, _, hpcs⟩ := (HP.out.below mvB HBR.out).bytesAt (by rw [HNP.out]; omega)
                obtain ⟨Ap, cp, g1, hcp, _⟩ := hpcs k3 (by rw [HNP.out]; exact hlt3)
                have hpe : ((ps.map fun p => (p.length, (0 : Int))).map fun x => (([] : List Int), (x.1 : Int), x.2)).getD k3 ([], 0, 0) = ([], ((ps.getD k3 []).length : Int), 0) := by
                  rw [List.getD_eq_getElem?_getD, List.getElem?_map, List.getElem?_map, List.getElem?_eq_getElem (by rw [HNP.out]; exact hlt3)]
                  simp [HNP.out, hlt3]
                rw [hpe] at q1 q2
                simp only at q1 q2
                generalize (ps.getD k3 []).length = dl at *
                clear hoc hpcs hpe HRR
                go_wp2_with fail
                go_quiet (fail)
                go_wp2_with fail
                go_roundg (np - (k3 + 1))
                case measure => omega
                case rel => exact ⟨k3 + 1, _, by omega, rfl, by go_num, by rw [HWR.out, World.drewN_drewN]⟩
              · obtain ⟨w3, hw3⟩ : ∃ w3, w3 = wr := ⟨_, rfl⟩
                have HX3 : Hid (ElsAt ElB 1 (fun j => w1.heap.size ≤ j) w3 Ax ((lims.map fun l => (l.toNat, ([] : List Int))).map fun t => t.2 ++ ps.flatten)) := Lib.hid (by rw [hw3, HWR.out]; exact HXA.out.drewN mvB nq)
                have HO3 : Hid (BytesAt (fun j => (Value.slice A' n c').ownBlock = some j) w3 A' ps.flatten) := Lib.hid (by rw [hw3, HWR.out]; exact HOA.out.drewN nq)
                have HB3 : Hid (Below w0.heap.size w0 w3) := Lib.hid (by rw [hw3]; exact HBR.out)
                have HW3 := Lib.hid hw3
                clear hw3
                go_wp2_with fail
                go_loopg [11] nl (fun f i wx => ∃ k nq : Nat, k ≤ nl ∧ f = nl - k ∧ i = .int .i64 k ∧ wx = w3.drewN nq)
                case atStart => exact ⟨0, 0, Nat.zero_le _, by omega, rfl, HW3.out.symm⟩
                case round =>
                  obtain ⟨k4, nq4, hk4, rfl, rfl, hwr4⟩ := hrel
                  have HWR4 := Lib.hid hwr4
                  have HX4 : ElsAt ElB 1 (fun j => w1.heap.size ≤ j) wr Ax ((lims.map fun l => (l.toNat, ([] : List Int))).map fun t => t.2 ++ ps.flatten) := by rw [hwr4]; exact HX3.out.drewN mvB nq4
                  have HO4 : BytesAt (fun j => (Value.slice A' n c').ownBlock = some j) wr A' ps.flatten := by rw [hwr4]; exact HO3.out.drewN nq4
                  have HB4 : Hid (Below w0.heap.size w0 wr) := Lib.hid (by rw [hwr4]; exact below_drewN HB3.out nq4)
                  clear hwr4
                  by_cases hlt4 : k4 < nl
                  · obtain ⟨xb, xo, rfl, _, _, hxc⟩ := HX4.bytesAt (by rw [List.length_map, List.length_map, HNL.out]; omega)
                    obtain ⟨Ai, ci, x1, _, xby⟩ := hxc k4 (by rw [List.length_map, List.length_map, HNL.out]; exact hlt4)
                    have hxe : ((lims.map fun l => (l.toNat, ([] : List Int))).map fun t => t.2 ++ ps.flatten).getD k4 [] = ps.flatten := by
                      rw [List.getD_eq_getElem?_getD, List.getElem?_map, List.getElem?_map, List.getElem?_eq_getElem (by rw [HNL.out]; exact hlt4)]
                      rfl
                    rw [hxe] at x1 xby
                    have C := Lib.hid (sameBytes_eq ci c' (show ps.flatten.length ≤ 281474976710656 by omega) xby HO4)
                    rw [← HN.out] at C x1
                    clear hxc xby hxe HX4 HO4
                    go_wp2_with fail
                    refine C.out.mono ?_
                    rintro e w5 ⟨rfl, q5, rfl⟩
                    go_wp2_with fail
                    go_roundg (nl - (k4 + 1))
                    case measure => omega
                    case rel => exact ⟨k4 + 1, _, by omega, rfl, by go_num, by rw [HWR4.out, World.drewN_drewN]⟩
                  · go_wp2_with fail
                    go_ret
                    exact ⟨by first | rfl | simp, HBA.out.trans (HB4.out.mono HBA.out.size)⟩

end Go.Proofs.YtmoecjhlonokfaaDoor
