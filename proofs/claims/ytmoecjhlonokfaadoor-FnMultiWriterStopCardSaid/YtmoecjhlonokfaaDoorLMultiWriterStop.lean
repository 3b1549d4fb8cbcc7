/- FnMultiWriterStop, walked: it returns true, and changes nothing that was there. -/
import Derived.Test.YtmoecjhlonokfaaDoorMwW
import Derived.Test.YtmoecjhlonokfaaDoorSMwW
import Derived.Test.YtmoecjhlonokfaaDoorMwV
import Derived.Test.YtmoecjhlonokfaaDoorMwQ
import Derived.Test.YtmoecjhlonokfaaDoorDrawW
import Derived.Test.YtmoecjhlonokfaaDoorLaw
import Derived.Deep.RegionHeld3
set_option linter.unusedVariables false
set_option linter.unusedSimpArgs false
namespace Go.Proofs.YtmoecjhlonokfaaDoor
open Go.RowKit

theorem elemBs : Tryd.prog.elem 23 = 31 := by kernel_rfl
theorem slice_lists_to (A : Option Addr) (len cap n : Nat) (hn : n ≤ cap) (w : World) :
    (Instr.slice 23 (.slice A len cap) none (some (.int .i64 (n : Int))) none).run Tryd.prog w = .ok (.slice A n cap) w := by
  obtain ⟨i0, hi, _, hs, _⟩ := info_parts infoBs
  exact slice_to (P := Tryd.prog) 23 (by rw [elemBs]; exact Tryd.underlying23) i0 (by rw [elemBs]; exact hi) A len cap n hn w

set_option maxHeartbeats 4000000 in
set_option maxRecDepth 100000 in
theorem multiWriterStop_walk {B : Nat} {S : Nat → Prop} {w : World} {E : Nat → Addr} (hE : Errs B w E) (hBw : B ≤ w.heap.size) {A : Option Addr} {l : List Int} (c : Nat) (h : BytesAt S w A l) (hb : ∀ j, 0 ≤ nth l j ∧ nth l j ≤ 255) :
    Calls Tryd.prog 6 #[.slice A l.length c] w (LawPost w) := by
  by_cases hl : 1048576 < l.length
  · have hl' : (1048576 : Int) < (l.length : Int) := by omega
    clear hE h hb
    go_enter Tryd.func6, Tryd.ntmps6
    go_wp2_with fail
    go_ret
    exact ⟨rfl, Below.refl _ _⟩
  · have hl' : ¬ (1048576 : Int) < (l.length : Int) := by omega
    have C0 := Lib.hid (drawWriter_any c h (by omega) (fun j _ => hb j))
    have HE := Lib.hid hE
    clear h hb hE hl
    generalize l.length = len at *
    go_enter Tryd.func6, Tryd.ntmps6
    go_wp2_with fail
    refine C0.out.mono ?_
    rintro e w0 ⟨lims, A0, c0, ps, A1, c1, rfl, hnl, hlb, hpl, hps, hpc, hZ, hP, hb0⟩
    clear C0
    have hsz0 := hb0.size
    have HZ := Lib.hid (hZ.mono (S' := (· < w0.heap.size)) fun k hk _ => hk)
    have HP := Lib.hid (hP.mono mvB (S' := (· < w0.heap.size)) fun k hk _ => hk)
    have HEa := Lib.hid (HE.out.below (hb0.mono hBw))
    have hBa : B ≤ w0.heap.size := Nat.le_trans hBw hsz0
    have HLB : Hid (∀ i, i < lims.length → nth lims i ≤ 9223372036854775807) := Lib.hid fun i hi => by
      have := hlb (nth lims i) (by rw [nth_get hi]; exact List.getElem_mem _)
      omega
    have hjl : ps.flatten.length ≤ 2800 := by have := flatten_le hps; omega
    have HPS := Lib.hid hps
    have HBA := Lib.hid hb0
    have HB0 : Hid (Below w0.heap.size w0 w0) := Lib.hid (Below.refl _ _)
    have C1 := Lib.hid (validSinks_any (w := w0) c0 (by omega) HZ.out)
    clear HE hZ hP hb0 hlb hps
    go_wp2_with fail
    refine (C1.out).mono ?_
    rintro e w1 ⟨v, rfl, hv, hb1⟩
    have HB1 := Lib.hid (HB0.out.trans (hb1.mono HB0.out.size))
    have hsz1 := hb1.size
    have HV := Lib.hid hv
    clear hb1 hv C1
    cases v with
    | false =>
      clear HV
      go_wp2_with fail
      go_ret
      exact ⟨by first | rfl | simp, HBA.out.trans (HB1.out.mono HBA.out.size)⟩
    | true =>
      have HVV := Lib.hid (HV.out rfl)
      clear HV
      by_cases hp0 : ps.length = 0
      · have hp0' : ((ps.length : Int) == 0) = true := by simp [hp0]
        go_wp2_with fail
        go_ret
        exact ⟨by first | rfl | simp, HBA.out.trans (HB1.out.mono HBA.out.size)⟩
      · have hp0' : ((ps.length : Int) == 0) = false := by simp [hp0]
        obtain ⟨pb, poff, rfl, hpbS, _, hpcs⟩ := HP.out.bytesAt (by omega)
        obtain ⟨Ap, cp, g1w, hcp, hby⟩ := hpcs 0 (by omega)
        rw [Nat.add_zero] at g1w
        have g1 := (HB1.out.cell (p := ⟨pb, poff, none⟩) hpbS).trans g1w
        have ht1 : ps.take 1 = [ps.getD 0 []] := by
          match ps, hp0 with
          | p :: r, _ => rfl
        have hlims : ∀ i, i < lims.length → 0 ≤ nth lims i ∧ nth lims i ≤ 9223372036854775807 := fun i hi => ⟨HVV.out i hi, HLB.out i hi⟩
        have hp7 : (ps.getD 0 []).length ≤ 700 := HPS.out _ (by
          match ps, hp0 with
          | p :: r, _ => exact List.mem_cons_self)
        have HP1 := Lib.hid (HP.out.take 1)
        rw [ht1] at HP1
        have HC2 := Lib.hid (implMw_any (ps := [ps.getD 0 []]) (HEa.out.below (HB1.out.mono hBa)) (Nat.le_trans hBa HB1.out.size) c0 c1 (HZ.out.below HB1.out) hlims (by omega) (HP1.out.below mvB HB1.out) (by simp) (by simp only [List.flatten_cons, List.flatten_nil, List.append_nil]; omega))
        generalize hpq : ps.getD 0 [] = p at *
        have hsl1 := fun w' => slice_lists_to (some ⟨pb, poff, none⟩) ps.length c1 1 (by omega) w'
        have hss : (lims.map fun l => (l.toNat, ([] : List Int))) = (lims.map Int.toNat).map fun l => (l, []) := by rw [List.map_map]; rfl
        rw [hss, mwRuns_one] at HC2
        obtain ⟨ht2, ht3⟩ := mwStep_takes (lims.map Int.toNat) p
        have hml := mwStep_length ((lims.map Int.toNat).map fun l => (l, ([] : List Int))) p
        rw [List.length_map, List.length_map] at hml
        have hmn := mwStep_n ((lims.map Int.toNat).map fun l => (l, ([] : List Int))) p
        generalize mwStep ((lims.map Int.toNat).map fun l => (l, ([] : List Int))) p = R at *
        obtain ⟨⟨rn, re⟩, R2⟩ := R
        simp only at HC2 ht2 ht3 hml
        have HT2 := Lib.hid ht2
        have HT3 := Lib.hid ht3
        have HML := Lib.hid hml
        have HBY := Lib.hid hby
        have hlsl : (lims.map Int.toNat).length = lims.length := List.length_map _
        have HLS := Lib.hid hlsl
        generalize hplen : p.length = pl at *
        have HPP := Lib.hid hplen
        clear hpcs hby g1w ht1 hlims hpq hss ht2 ht3 hml hlsl hplen
        go_wp2_with fail
        refine HC2.out.mono ?_
        rintro e w2 ⟨Aa, ca, Ax, cx, rfl, hca, hcx, hra, hxa, hb2⟩
        have HB2 : Hid (Below w0.heap.size w0 w2) := Lib.hid (HB1.out.trans (hb2.mono HB1.out.size))
        have hs2 := HB2.out.size
        obtain ⟨ob, oo, rfl, _, _, hoc⟩ := hra.opsAt (by simp)
        obtain ⟨_, _, _, _, q2, _⟩ := hoc 0 (by simp)
        simp only [List.map_cons, List.map_nil, List.getD_cons_zero, Nat.zero_mul, Nat.add_zero] at q2
        have HXA := Lib.hid hxa
        rw [HT2.out] at HXA
        rw [HML.out]
        simp only [List.length_cons, List.length_nil]
        clear hb2 hra hxa HC2 hoc
        generalize hln : lims.length = n at *
        have HLN := Lib.hid hln
        clear hln
        go_wp2_with fail
        go_loopg [8, 9] n (fun f v i wr => ∃ (k nq : Nat) (bf : Bool), k ≤ n ∧ f = n - k ∧ i = .int .i64 k ∧ v = .bool bf ∧ Hid (bf = full pl ((lims.map Int.toNat).take k)) ∧ wr = w2.drewN nq)
        case atStart => exact ⟨0, 0, false, Nat.zero_le _, by omega, rfl, rfl, Lib.hid (by simp [full]), rfl⟩
        case round =>
          obtain ⟨k, nq, bf, hk, rfl, rfl, rfl, HF, hwr⟩ := hrel
          have HWR := Lib.hid hwr
          have HBR : Hid (Below w0.heap.size w0 wr) := Lib.hid (by rw [hwr]; exact below_drewN HB2.out nq)
          have HXR : Hid (ElsAt ElB 1 (fun j => w1.heap.size ≤ j) wr Ax (takes p (lims.map Int.toNat))) := Lib.hid (by rw [hwr]; exact HXA.out.drewN mvB nq)
          have q2r : wr.cell? ⟨ob, oo + 2, none⟩ = some (.int .i64 re) := by rw [hwr]; exact q2
          clear hwr
          by_cases hlt : k < n
          · obtain ⟨lb, loff, rfl, hlbS, _, hlc⟩ := HZ.out (by rw [HLN.out]; omega)
            have g2 := (HBR.out.cell (p := ⟨lb, loff + k, none⟩) hlbS).trans (hlc k (by rw [HLN.out]; exact hlt))
            obtain ⟨xb, xo, rfl, _, _, hxc⟩ := HXR.out.bytesAt (by rw [takes_length, HLS.out]; omega)
            obtain ⟨Ai, ci, x1, _, xby⟩ := hxc k (by rw [takes_length, HLS.out]; exact hlt)
            have hkl : k < (lims.map Int.toNat).length := by rw [HLS.out]; exact hlt
            have hta := takes_at (p := p) hkl
            have hfs := full_succ (n := pl) hkl
            have hvk := HVV.out k hlt
            have hln : (lims.map Int.toNat).getD k 0 = (nth lims k).toNat := by
              rw [List.getD_eq_getElem?_getD, List.getElem?_map, List.getElem?_eq_getElem (by rw [HLN.out]; exact hlt), nth_get (by rw [HLN.out]; exact hlt)]; rfl
            rw [hln] at hta hfs
            rw [HPP.out, ← HF.out] at hta
            rw [← HF.out] at hfs
            generalize nth lims k = l at *
            obtain ⟨l, rfl⟩ : ∃ l' : Nat, l = (l' : Int) := ⟨l.toNat, by omega⟩
            rw [Int.toNat_natCast] at hta hfs
            have HFS := Lib.hid hfs
            have hbyr := HBY.out.below HBR.out
            by_cases hll : l < pl
            · have hll' : (l : Int) < (pl : Int) := by omega
              have hmin : (if (l : Int) < (pl : Int) then (l : Int) else (pl : Int)) = (l : Int) := by split <;> omega
              cases bf with
              | true =>
                simp only [if_true] at hta
                rw [hta] at x1 xby
                simp only [List.length_nil] at x1
                have hsl := fun w' => slice_bytes_to Ap pl cp 0 (by omega) w'
                have C := Lib.hid fun q => sameBytes_eq (l := []) ci cp (by simp) (xby.drewN q) (BytesAt.nil (fun _ => True) (wr.drewN q) Ap)
                simp only [List.length_nil] at C
                have HF2 : Hid (true = full pl ((lims.map Int.toNat).take (k + 1))) := Lib.hid (by rw [HFS.out]; rfl)
                clear hlc hxc xby hta hfs hln hbyr
                go_wp2_with fail
                go_quiet (first | (go_at_call 18; exact Calls.quiet_of (C.out _)))
                go_wp2_with fail
                go_roundg (n - (k + 1))
                case measure => omega
                case rel => exact ⟨k + 1, _, true, by omega, rfl, by go_num, rfl, HF2, by rw [HWR.out, World.drewN_drewN]⟩
              | false =>
                simp only [Bool.false_eq_true, if_false] at hta
                rw [hta] at x1 xby
                have hpl : (p.take l).length = l := by rw [List.length_take, HPP.out]; omega
                rw [hpl] at x1
                have hsl := fun w' => slice_bytes_to Ap pl cp l (by omega) w'
                have C := Lib.hid fun q => sameBytes_eq (l := p.take l) ci cp (by rw [hpl]; omega) (xby.drewN q) ((hbyr.take l).drewN q)
                rw [hpl] at C
                have HF2 : Hid (true = full pl ((lims.map Int.toNat).take (k + 1))) := Lib.hid (by rw [HFS.out]; simp; omega)
                clear hlc hxc xby hta hfs hln hbyr hpl
                go_wp2_with fail
                go_quiet (first | (go_at_call 18; exact Calls.quiet_of (C.out _)))
                go_wp2_with fail
                go_roundg (n - (k + 1))
                case measure => omega
                case rel => exact ⟨k + 1, _, true, by omega, rfl, by go_num, rfl, HF2, by rw [HWR.out, World.drewN_drewN]⟩
            · have hll' : ¬ (l : Int) < (pl : Int) := by omega
              have hmin : (if (l : Int) < (pl : Int) then (l : Int) else (pl : Int)) = (pl : Int) := by split <;> omega
              cases bf with
              | true =>
                simp only [if_true] at hta
                rw [hta] at x1 xby
                simp only [List.length_nil] at x1
                have hsl := fun w' => slice_bytes_to Ap pl cp 0 (by omega) w'
                have C := Lib.hid fun q => sameBytes_eq (l := []) ci cp (by simp) (xby.drewN q) (BytesAt.nil (fun _ => True) (wr.drewN q) Ap)
                simp only [List.length_nil] at C
                have HF2 : Hid (true = full pl ((lims.map Int.toNat).take (k + 1))) := Lib.hid (by rw [HFS.out]; rfl)
                clear hlc hxc xby hta hfs hln hbyr
                go_wp2_with fail
                go_quiet (first | (go_at_call 18; exact Calls.quiet_of (C.out _)))
                go_wp2_with fail
                go_roundg (n - (k + 1))
                case measure => omega
                case rel => exact ⟨k + 1, _, true, by omega, rfl, by go_num, rfl, HF2, by rw [HWR.out, World.drewN_drewN]⟩
              | false =>
                simp only [Bool.false_eq_true, if_false] at hta
                rw [hta, List.take_of_length_le (show p.length ≤ l by rw [HPP.out]; omega)] at x1 xby
                have hpl : (p).length = pl := by exact HPP.out
                rw [hpl] at x1
                have hsl := fun w' => slice_bytes_to Ap pl cp pl (by omega) w'
                have C := Lib.hid fun q => sameBytes_eq (l := p) ci cp (by rw [hpl]; omega) (xby.drewN q) ((hbyr).drewN q)
                rw [hpl] at C
                have HF2 : Hid (false = full pl ((lims.map Int.toNat).take (k + 1))) := Lib.hid (by rw [HFS.out]; simp; omega)
                clear hlc hxc xby hta hfs hln hbyr hpl
                go_wp2_with fail
                go_quiet (first | (go_at_call 18; exact Calls.quiet_of (C.out _)))
                go_wp2_with fail
                go_roundg (n - (k + 1))
                case measure => omega
                case rel => exact ⟨k + 1, _, false, by omega, rfl, by go_num, rfl, HF2, by rw [HWR.out, World.drewN_drewN]⟩
          · have hkt : (lims.map Int.toNat).take k = lims.map Int.toNat := List.take_of_length_le (by rw [HLS.out]; omega)
            rw [hkt] at HF
            have hre : re = if bf then 3 else 0 := by rw [HT3.out, HF.out]
            clear hkt
            cases bf with
            | true =>
              simp only [if_true] at hre
              subst hre
              go_wp2_with fail
              go_ret
              exact ⟨by first | rfl | simp, HBA.out.trans (HBR.out.mono HBA.out.size)⟩
            | false =>
              simp only [Bool.false_eq_true, if_false] at hre
              subst hre
              go_wp2_with fail
              go_ret
              exact ⟨by first | rfl | simp, HBA.out.trans (HBR.out.mono HBA.out.size)⟩

end Go.Proofs.YtmoecjhlonokfaaDoor
