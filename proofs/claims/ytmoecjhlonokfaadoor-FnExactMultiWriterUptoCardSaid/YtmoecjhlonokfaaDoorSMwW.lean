/- spec.MultiWriter, walked. -/
import Derived.Test.YtmoecjhlonokfaaDoorSMw
import Derived.Test.YtmoecjhlonokfaaDoorMwW
import Derived.Test.YtmoecjhlonokfaaDoorDraw0
import Derived.Deep.QuietTactic
import Derived.BigQuiet
set_option linter.unusedVariables false
set_option linter.unusedSimpArgs false
namespace Go.Proofs.YtmoecjhlonokfaaDoor
open Go.RowKit

set_option maxHeartbeats 20000000 in
set_option maxRecDepth 100000 in
theorem specMw_any {S0 S1 : Nat → Prop} {w : World} {A A1 : Option Addr} {lims : List Int} {ps : List (List Int)} (c c1 : Nat) (h : IntsAt S0 w A lims) (hl : ∀ i, i < lims.length → 0 ≤ nth lims i ∧ nth lims i ≤ 9223372036854775807) (hn : lims.length ≤ 1048576)
    (hp : ElsAt ElB 1 S1 w A1 ps) (hpn : ps.length ≤ 1048576) (hj : ps.flatten.length ≤ 70368744177664) :
    Calls Tryd.prog 14 #[.slice A lims.length c, .slice A1 ps.length c1] w (MwiPost (mwRuns ps (lims.map fun l => (l.toNat, []))) w) := by
  obtain ⟨i1, hi1, hy0, hy1, hy2⟩ := info_parts infoOpG
  obtain ⟨i0, hi0, hz0, hz1, hz2⟩ := info_parts infoU8
  obtain ⟨ib, hib, hb0, hb1, hb2⟩ := info_parts infoBs
  have HZ := Lib.hid (h.mono (S' := (· < w.heap.size)) fun k hk _ => hk)
  have HP := Lib.hid (hp.mono mvB (S' := (· < w.heap.size)) fun k hk _ => hk)
  have HLM := Lib.hid hl
  have HJ := Lib.hid hj
  clear h hl hp hj
  generalize hlen : lims.length = n at *
  have HL := Lib.hid hlen
  generalize hpl : ps.length = np at *
  have HPL := Lib.hid hpl
  clear hlen hpl
  go_enter Tryd.func14, Tryd.ntmps14
  go_wp2_with fail
  go_loopg [7, 8] n (fun f v i wr => ∃ (k : Nat) (A' : Option Addr) (c' : Nat) (TB : Nat → Nat), k ≤ n ∧ f = n - k ∧ i = .int .i64 k ∧ v = .slice A' k c' ∧ Hid (wr.ownsRow (w.heap.size + 1) 31 1 (.slice A' k c') k ((List.range k).map fun i => .slice (some ⟨TB i, 0, none⟩) 0 0)) ∧ Hid (∀ i, i < k → wr.ownsRow (w.heap.size + 1) 5 1 (.slice (some ⟨TB i, 0, none⟩) 0 0) 0 []) ∧ Hid (∀ i j, i < k → j < k → i ≠ j → TB i ≠ TB j) ∧ Hid (Below (w.heap.size + 1) (w.alloc (.cells #[] 38)) wr))
  case atStart =>
    refine ⟨0, _, 0, fun _ => 0, Nat.zero_le _, by omega, rfl, rfl, Lib.hid ?_, Lib.hid (fun i hi => by omega), Lib.hid (fun i j hi => by omega), Lib.hid ((Below.refl _ _).alloc (by simp) _)⟩
    have := own_empty (w.alloc (.cells #[] 38)) (w.heap.size + 1) 31 1 (by simp)
    simpa using this
  case round =>
    obtain ⟨k, A', c', TB, hk, rfl, rfl, rfl, HR, HOI, HDI, HB⟩ := hrel
    have hszr := HB.out.size
    simp at hszr
    by_cases hlt : k < n
    · have hne : ∀ i, i < k → TB i < wr.heap.size := fun i hi => (own_block_lt (HOI.out i hi) rfl).2
      have htp : ∀ i, i < k → some (TB i) ≠ (Value.slice A' k c').ownBlock := fun i hi e => by
        obtain ⟨cs1, h1⟩ := own_type (HOI.out i hi) (g := TB i) rfl
        obtain ⟨cs2, h2⟩ := own_type HR.out e.symm
        exact (h1.ne_of h2 (by decide)) rfl
      have HTP := Lib.hid htp
      have HNE := Lib.hid hne
      clear htp hne
      go_wp2_with (at_builtin; refine wpList_append_gen _ rfl (.tmp 21) (.tmp 23) 23 rfl (w.heap.size + 1) 31 ib _ 1 24 Tryd.underlying23 hib hb0 hb1 hb2 rfl (by omega) _ k _ rfl ((HR.out.alloc _).alloc _) (some ⟨wr.heap.size + 1, 0, none⟩) 1 1 [.slice (some ⟨wr.heap.size, 0, none⟩) 0 0] rfl (by rfl) ((blk_new2 wr _ 31 #[.slice (some ⟨wr.heap.size, 0, none⟩) 0 0] rfl).news 1) (by simp [Value.oneCell']) (by unfold maxLen; omega) (by omega) (by simp; omega) ?_)
      intro A2 c2 w2 hap
      have hs2 := hap.sizeLe
      simp at hs2
      have hK : Kept (fun j => some j = (Value.slice A' k c').ownBlock) (wr.alloc (.cells #[] 5)) w2 := ((Kept.refl _ _).alloc _).trans hap.kept fun _ _ e => e
      have hlo : ∀ j, (Value.slice A' k c').ownBlock = some j → w.heap.size + 1 ≤ j ∧ j < wr.heap.size := fun j e => own_block_lt HR.out e
      have HR2 : Hid (w2.ownsRow (w.heap.size + 1) 31 1 (.slice A2 (k + 1) c2) (k + 1) ((List.range (k + 1)).map fun i => .slice (some ⟨(if i = k then wr.heap.size else TB i), 0, none⟩) 0 0)) := Lib.hid (by
        have e1 : ((List.range (k + 1)).map fun i => Value.slice (some ⟨(if i = k then wr.heap.size else TB i), 0, none⟩) 0 0) = ((List.range k).map fun i => Value.slice (some ⟨TB i, 0, none⟩) 0 0) ++ [.slice (some ⟨wr.heap.size, 0, none⟩) 0 0] := by
          rw [List.range_succ, List.map_append]
          simp only [List.map_cons, List.map_nil, if_true]
          congr 1
          apply List.map_congr_left
          intro i hi
          rw [if_neg (by have := List.mem_range.1 hi; omega)]
        rw [e1]
        exact hap.own)
      have HO2 : Hid (∀ i, i < k + 1 → w2.ownsRow (w.heap.size + 1) 5 1 (.slice (some ⟨(if i = k then wr.heap.size else TB i), 0, none⟩) 0 0) 0 []) := Lib.hid fun i hi => by
        by_cases hik : i = k
        · rw [if_pos hik]
          exact own_keptP (own_empty wr (w.heap.size + 1) 5 1 (by omega)) hK fun g hg e => by
            have h1 : wr.heap.size = g := by injection hg
            have := (hlo g e.symm).2
            omega
        · rw [if_neg hik]
          exact own_keptP ((HOI.out i (by omega)).alloc _) hK fun g hg e => by
            have h1 : TB i = g := by injection hg
            subst h1
            exact HTP.out i (by omega) e
      have HD2 : Hid (∀ i j, i < k + 1 → j < k + 1 → i ≠ j → (if i = k then wr.heap.size else TB i) ≠ (if j = k then wr.heap.size else TB j)) := Lib.hid fun i j hi hj hij => by
        by_cases hik : i = k
        · rw [if_pos hik, if_neg (by omega)]
          have := HNE.out j (by omega)
          omega
        · rw [if_neg hik]
          by_cases hjk : j = k
          · rw [if_pos hjk]
            have := HNE.out i (by omega)
            omega
          · rw [if_neg hjk]
            exact HDI.out i j (by omega) (by omega) hij
      have HB2 : Hid (Below (w.heap.size + 1) (w.alloc (.cells #[] 38)) w2) := Lib.hid ((HB.out.alloc (by omega) _).trans (hK.below (by simp; omega) fun j hj e => by have := (hlo j e.symm).1; omega))
      clear hap hK hlo
      go_wp2_with fail
      go_roundg (n - (k + 1))
      case measure => omega
      case rel => exact ⟨k + 1, A2, c2, fun i => if i = k then wr.heap.size else TB i, by omega, rfl, by go_num, rfl, HR2, HO2, HD2, HB2⟩
    · have hkn : k = n := by omega
      subst hkn
      obtain ⟨tb, htb, htk⟩ := tk_new HR.out HOI.out HDI.out
      have hTB := Lib.hid htb
      have hss : (lims.map fun l => (l.toNat, ([] : List Int))).map (·.2) = List.replicate k [] := by
        rw [List.map_map]
        rw [← HL.out]
        exact List.map_const'
      rw [← hss] at htk
      have HT0 := Lib.hid htk
      have HR0 : Hid (RowT ElO 3 38 w.heap.size (fun _ => False) wr (some ⟨w.heap.size, 0, none⟩) 0 0 (([] : List (Nat × Int)).map fun x => (([] : List Int), (x.1 : Int), x.2)) []) := Lib.hid ((RowT.empty ElO 3 (fun _ => False) 38 w w.heap.size (Nat.le_refl _)).kept mvO (D := fun j => w.heap.size + 1 ≤ j) ⟨HB.out.os, HB.out.tape, HB.out.output, HB.out.size, fun j hj hn => HB.out.block j (by omega)⟩ (fun j e hD => by have := own_lit e; omega) (fun _ hf => hf.elim))
      have HS0 : Hid (SumIs lims (lims.map fun l => (l.toNat, ([] : List Int)))) := Lib.hid fun i hi => by
        rw [List.length_map] at hi
        have := HLM.out i (by rw [HL.out] at hi; exact hi)
        have e : (lims.map fun l => (l.toNat, ([] : List Int))).getD i (0, []) = ((nth lims i).toNat, []) := by
          rw [List.getD_eq_getElem?_getD, List.getElem?_map, List.getElem?_eq_getElem hi, nth_get hi]; rfl
        rw [e]
        simp only [List.length_nil]
        omega
      have HL0 : Hid ((lims.map fun l => (l.toNat, ([] : List Int))).length = k) := Lib.hid (by rw [List.length_map]; exact HL.out)
      have HBD0 : Hid (∀ x ∈ lims.map (fun l => (l.toNat, ([] : List Int))), x.2.length + (ps.drop 0).flatten.length ≤ 70368744177664) := Lib.hid fun x hx => by
        obtain ⟨l, hl, rfl⟩ := List.mem_map.1 hx
        have := HJ.out
        simpa using this
      have HBL0 : Hid (Below w.heap.size w wr) := Lib.hid (((Below.refl _ _).alloc (Nat.le_refl _) _).trans (HB.out.mono (by omega)))
      clear htb htk hss
      go_wp2_with fail
      go_loopg [6, 9] np (fun f v i wy => ∃ (q : Nat) (A3 : Option Addr) (c3 : Nat) (xs : List Value) (TA : Nat → Option Addr) (TC : Nat → Nat) (ss : List (Nat × List Int)) (done : List (Nat × Int)), q ≤ np ∧ f = np - q ∧ i = .int .i64 q ∧ v = .slice A3 q c3 ∧ Hid (RowT ElO 3 38 w.heap.size (fun _ => False) wy A3 q c3 (done.map fun x => (([] : List Int), (x.1 : Int), x.2)) xs) ∧
        Hid (Tk (w.heap.size + 1) tb TA TC (ss.map (·.2)) wy) ∧ Hid (mwRuns ps (lims.map fun l => (l.toNat, [])) = (done ++ (mwRuns (ps.drop q) ss).1, (mwRuns (ps.drop q) ss).2)) ∧ Hid (∀ x ∈ ss, x.2.length + (ps.drop q).flatten.length ≤ 70368744177664) ∧ Hid (SumIs lims ss) ∧ Hid (ss.length = k) ∧ Hid (Below w.heap.size w wy))
      case atStart => exact ⟨0, _, 0, [], _, _, _, [], Nat.zero_le _, by omega, rfl, rfl, HR0, HT0, Lib.hid (by simp), HBD0, HS0, HL0, HBL0⟩
      case round =>
        obtain ⟨q, A3, c3, xs, TA, TC, ss, done, hq, rfl, rfl, rfl, HRY, HTY, HRU, HBD, HSU, HSL, HBL⟩ := hrel
        obtain ⟨wy, hwy⟩ : ∃ wy, wy = wr := ⟨_, rfl⟩
        subst hwy
        have hsy := HBL.out.size
        by_cases hltq : q < np
        · obtain ⟨pb, poff, rfl, hpbS, _, hpc⟩ := HP.out.bytesAt (by rw [HPL.out]; omega)
          obtain ⟨Ap, cp, g1w, hcp, hby⟩ := hpc q (by rw [HPL.out]; exact hltq)
          have hru := mwRuns_drop (ps := ps) (k := q) (by rw [HPL.out]; exact hltq) ss
          have hfl := flatten_drop (ps := ps) (k := q) (by rw [HPL.out]; exact hltq)
          generalize hpq : ps.getD q [] = p at *
          have hple : p.length ≤ 70368744177664 := by have := drop_flatten_le ps q; have := HJ.out; omega
          have HB2 : Hid (∀ x ∈ (mwStep ss p).2, x.2.length + (ps.drop (q + 1)).flatten.length ≤ 70368744177664) := Lib.hid fun x hx => by
            have := mwStep_len (ss := ss) (p := p) (b := 70368744177664 - (ps.drop q).flatten.length) (fun y hy => by have := HBD.out y hy; omega) x hx
            have := drop_flatten_le ps q
            have := HJ.out
            omega
          have HRU2 := Lib.hid hru
          have HBY := Lib.hid hby
          have HG1 := Lib.hid g1w
          have g1 := (HBL.out.cell (p := ⟨pb, poff + q, none⟩) hpbS).trans g1w
          have HPB : Hid (pb < w.heap.size) := Lib.hid hpbS
          generalize hpp : p.length = pl at *
          have HPP := Lib.hid hpp
          clear hpc hby hru hfl hpq g1w hpp hpbS
          have HRW := Lib.hid (HRY.out.kept mvO ((Kept.refl (fun _ => False) wy).alloc (.cells #[.slice none 0 0, .int .i64 (pl : Int), .int .i64 0] 38)) (fun _ _ hf => hf) (fun _ _ hf => hf))
          have HX0 : Hid (Blk (wy.alloc (.cells #[.slice none 0 0, .int .i64 (pl : Int), .int .i64 0] 38)) wy.heap.size 38 #[.slice none 0 0, .int .i64 (pl : Int), .int .i64 0]) := Lib.hid (Blk.new _ _ _)
          have HT9 := Lib.hid (HTY.out.kept ((Kept.refl (fun _ => False) wy).alloc (.cells #[.slice none 0 0, .int .i64 (pl : Int), .int .i64 0] 38)) (fun _ hf => hf) (fun _ _ hf => hf))
          go_wp2_with fail
          go_loopg [11] k (fun f i wz => ∃ (m : Nat) (TA' : Nat → Option Addr) (TC' : Nat → Nat) (cur : List (Nat × List Int)) (xn : Nat) (xe : Int), m ≤ k ∧ f = k - m ∧ i = .int .i64 m ∧ Hid (Tk (w.heap.size + 1) tb TA' TC' (cur.map (·.2)) wz) ∧ Hid (Blk wz wy.heap.size 38 #[.slice none 0 0, .int .i64 (xn : Int), .int .i64 xe]) ∧
            Hid (Kept (fun j => (0 < k ∧ j = tb) ∨ j = wy.heap.size ∨ TkB TA TC (ss.map (·.2)) j) (wy.alloc (.cells #[.slice none 0 0, .int .i64 (pl : Int), .int .i64 0] 38)) wz) ∧ Hid (∀ b, TkB TA' TC' (cur.map (·.2)) b → TkB TA TC (ss.map (·.2)) b ∨ wy.heap.size + 1 ≤ b) ∧
            ((xe = 0 ∧ Hid (xn = pl ∧ cur = mwCur ss p m ∧ ∀ x ∈ ss.take m, p.length ≤ x.1)) ∨ (xe = 3 ∧ Hid (mwStep ss p = ((xn, 3), cur)))))
          case atStart => exact ⟨0, TA, TC, ss, pl, 0, Nat.zero_le _, by omega, rfl, HT9, HX0, Lib.hid (Kept.refl _ _), Lib.hid (fun b hb => .inl hb), .inl ⟨rfl, Lib.hid ⟨rfl, (mwCur_zero ss p).symm, fun x hx => by simp at hx⟩⟩⟩
          case round =>
            obtain ⟨m, TA', TC', cur, xn, xe, hm, rfl, rfl, HTZ, HXB, HKZ, HBB, hst⟩ := hrel
            have hszz0 := HKZ.out.size
            have hszz1 : wy.heap.size + 1 ≤ wr.heap.size := by simpa using hszz0
            clear hszz0
            have HBZ : Hid (Below w.heap.size w wr) := Lib.hid ((HBL.out.alloc hsy _).trans (HKZ.out.below (by simp; omega) fun j hj hD => by
              rcases hD with ⟨hn0, h'⟩ | h' | h'
              · have := (hTB.out hn0).2; omega
              · omega
              · have := (HTY.out.lt h').1; omega))
            rcases hst with ⟨rfl, HS⟩ | ⟨rfl, HST⟩
            · by_cases hltm : m < k
              · obtain ⟨hxn, hcur, hdn⟩ := HS.out
                have hxn' := hxn.symm
                subst hxn'
                subst hcur
                have HDN := Lib.hid hdn
                obtain ⟨wz, hwz⟩ : ∃ wz, wz = wr := ⟨_, rfl⟩
                subst hwz
                have hms : m < ss.length := by rw [HSL.out]; exact hltm
                obtain ⟨lb, loff, rfl, hlbS, _, hlc⟩ := HZ.out (by rw [HL.out]; omega)
                have g2 := (HBZ.out.cell (p := ⟨lb, loff + m, none⟩) hlbS).trans (hlc m (by rw [HL.out]; exact hltm))
                have hsum := HSU.out m hms
                obtain ⟨hAe, htbb⟩ := hTB.out (by omega)
                subst hAe
                obtain ⟨tcur, htbk, htc⟩ := HTZ.out.blk (by rw [List.length_map, mwCur_len]; omega)
                have htcm := htc m (by rw [List.length_map, mwCur_len]; exact hms)
                have howm := HTZ.out.own m (by rw [List.length_map, mwCur_len]; exact hms)
                have hgm : ((mwCur ss p m).map (·.2)).getD m [] = (ss.getD m (0, [])).2 := by rw [getD_map2 (by rw [mwCur_len]; exact hms), mwCur_at hms]
                have g3 := htbk.cell m
                rw [List.getElem?_toArray, htcm] at g3
                rw [hgm] at g3 howm
                have hput := fun (nq : Nat) (w2 : World) (A2 : Option Addr) (c2 mm : Nat) (t : List Int) (hm' : mm = (ss.getD m (0, [])).2.length + t.length) (hap : Appended (w.heap.size + 1) 5 1 A2 mm c2 (bytesV (ss.getD m (0, [])).2 ++ bytesV t) (Value.slice (TA' m) (ss.getD m (0, [])).2.length (TC' m)).ownBlock ((wz.drewN nq).drew) w2) => Tk.put (t := t) HTZ.out (by rw [List.length_map, mwCur_len]; exact hms) hgm (((Kept.refl (fun _ => False) wz).drewN nq).drew) hm' hap
                have hst1 : ∀ left d, ss.getD m (0, []) = (left, d) → left < p.length → mwStep ss p = ((left, 3), (mwCur ss p m).set m (left - left, d ++ p.take left)) := fun left d hx hfl => by
                  have hsplit : ss = ss.take m ++ ss.getD m (0, []) :: ss.drop (m + 1) := by
                    conv => lhs; rw [← List.take_append_drop m ss, List.drop_eq_getElem_cons hms]
                    simp [hms]
                  rw [hx] at hsplit
                  have h1 := mwStep_at (k := m) (p := p) hsplit (by rw [List.length_take]; omega) HDN.out
                  rw [mwStep, if_pos hfl] at h1
                  rw [h1, mwCur_set hms]
                  simp only
                  rw [show (p.take left).length = left by rw [List.length_take]; omega]
                have hnx := mwCur_next (p := p) hms
                have htk1 : ss.take (m + 1) = ss.take m ++ [ss.getD m (0, [])] := by
                  rw [List.take_succ_eq_append_getElem hms]
                  simp [hms]
                have hbdm : (ss.getD m (0, [])).2.length ≤ 70368744177664 := by have := HBD.out (ss.getD m (0, [])) (by rw [List.getD_eq_getElem?_getD, List.getElem?_eq_getElem hms]; exact List.getElem_mem _); omega
                have HTBK := Lib.hid htbk
                have htbl := htbk.lt
                have hxt : wy.heap.size ≠ tb := HXB.out.ne_of htbk (by decide)
                have hsetm : ∀ y : Nat × List Int, ((mwCur ss p m).map (·.2)).set m y.2 = ((mwCur ss p m).set m y).map (·.2) := fun y => by rw [List.map_set]
                generalize ss.getD m (0, []) = x at *
                obtain ⟨left, d⟩ := x
                simp only at hsum g3 howm hput hnx hbdm
                have gz := (HBZ.out.cell (p := ⟨pb, poff + q, none⟩) HPB.out).trans HG1.out
                have gx := HXB.out.cell 2
                simp at gx
                have HBYZ := Lib.hid (HBY.out.below HBZ.out)
                have HON : Hid (∀ j, (Value.slice (TA' m) d.length (TC' m)).ownBlock = some j → j ≠ tb) := Lib.hid fun j e => by
                  obtain ⟨cs', hb'⟩ := own_type howm e
                  exact hb'.ne_of HTBK.out (by decide)
                have HOX : Hid (∀ j, (Value.slice (TA' m) d.length (TC' m)).ownBlock = some j → j ≠ wy.heap.size) := Lib.hid fun j e => by
                  obtain ⟨cs', hb'⟩ := own_type howm e
                  exact hb'.ne_of HXB.out (by decide)
                have HOWN := Lib.hid howm
                have hpbl := HPB.out
                have hpt : pb ≠ tb := by omega
                have htp : tb ≠ pb := by omega
                have hpx : pb ≠ wy.heap.size := by omega
                have hxp : wy.heap.size ≠ pb := by omega
                have htx : tb ≠ wy.heap.size := fun e => hxt e.symm
                generalize hLL : nth lims m = LL at *
                have hcapL := HLM.out m hltm
                rw [hLL] at hcapL
                have hsub : LL - (d.length : Int) = (left : Int) := by omega
                generalize TA' m = Ak at *
                generalize TC' m = ck at *
                clear htc htcm howm hlc hgm htbk hdn HS hLL
                by_cases hfl : left < pl
                · have hflp : left < p.length := by rw [HPP.out]; exact hfl
                  have HSTP := Lib.hid (hst1 left d rfl hflp)
                  have HTL : Hid ((p.take left).length = left) := Lib.hid (by rw [List.length_take]; omega)
                  have HBYT := Lib.hid (HBYZ.out.take left)
                  have HPUT : Hid (∀ (nq : Nat) (w2 : World) (A2 : Option Addr) (c2 mm : Nat), Appended (w.heap.size + 1) 5 1 A2 mm c2 (bytesV d ++ bytesV (p.take left)) (Value.slice Ak d.length ck).ownBlock ((wz.drewN nq).drew) w2 → _) := Lib.hid fun nq w2 A2 c2 mm hap => hput nq w2 A2 c2 mm (p.take left) (by have := hap.own.1; rw [List.length_append, bytesV_length, bytesV_length] at this; omega) hap
                  have hs1 := hsetm (left - left, d ++ p.take left)
                  simp only at hs1
                  rw [hs1] at HPUT
                  have hmin : (if (left : Int) < (pl : Int) then (left : Int) else (pl : Int)) = (left : Int) := by split <;> omega
                  have hmin2 : (if left < pl then (left : Int) else (pl : Int)) = (left : Int) := by split <;> omega
                  have hfl' : (left : Int) < (pl : Int) := by omega
                  clear hput hst1 hnx htk1 hsetm hs1
                  generalize d.length = dl at *
                  have hsl := fun w' : World => slice_bytes_to Ap pl cp left (by omega) w'
                  have HBV := Lib.hid (show (bytesV (p.take left)).length = left * 1 by rw [bytesV_length, HTL.out]; omega)
                  have HNW := fun nq => Lib.hid (show NewsAt ((wz.drewN nq).drew) Ap left (bytesV (p.take left)) by have := (HBYT.out).news; rw [HTL.out] at this; exact this)
                  go_wp2_with fail
                  go_quiet (fail)
                  go_wp2_with fail
                  have hS0 : ((wz.drewN nq).drew).cell? ⟨tb, m, none⟩ = some (.slice Ak dl ck) ∧ ((wz.drewN nq).drew).cell? ⟨pb, poff + q, none⟩ = some (.slice Ap pl cp) := ⟨g3, gz⟩
                  refine wp_region_R (S := fun w' => w'.cell? ⟨tb, m, none⟩ = some (.slice Ak dl ck) ∧ w'.cell? ⟨pb, poff + q, none⟩ = some (.slice Ap pl cp)) (late := 14) (by kernel_rfl) ?_
                  refine wpAnyR_take (i := 0) (v := ?_) rfl (by kernel_rfl) (by kernel_rfl) (by kernel_rfl) (by kernel_rfl) (fun _ _ _ h => h) hS0 (Or.inl ⟨by rfl, fun w hSw => ?_⟩) ?_
                  rotate_left
                  · (dsimp only at hSw; go_simp; try (with_reducible rfl))
                  simp only [Act.put, List.setIfInBounds_toArray, List.set_cons_zero, List.set_cons_succ]
                  refine wpAnyR_take (i := 1) (v := ?_) rfl (by kernel_rfl) (by kernel_rfl) (by kernel_rfl) (by kernel_rfl) (fun _ _ _ h => h) hS0 (Or.inl ⟨by rfl, fun w hSw => ?_⟩) ?_
                  rotate_left
                  · (dsimp only at hSw; go_simp; try (with_reducible rfl))
                  simp only [Act.put, List.setIfInBounds_toArray, List.set_cons_zero, List.set_cons_succ]
                  refine wpAnyR_take (i := 2) (v := ?_) rfl (by kernel_rfl) (by kernel_rfl) (by kernel_rfl) (by kernel_rfl) (fun _ _ _ h => h) hS0 (Or.inl ⟨by rfl, fun w hSw => ?_⟩) ?_
                  rotate_left
                  · (dsimp only at hSw; go_simp; try (with_reducible rfl))
                  simp only [Act.put, List.setIfInBounds_toArray, List.set_cons_zero, List.set_cons_succ]
                  refine wpAnyR_take (i := 3) (v := ?_) rfl (by kernel_rfl) (by kernel_rfl) (by kernel_rfl) (by kernel_rfl) (fun _ _ _ h => h) hS0 (Or.inl ⟨by rfl, fun w hSw => ?_⟩) ?_
                  rotate_left
                  · (dsimp only at hSw; go_simp; try (with_reducible rfl))
                  simp only [Act.put, List.setIfInBounds_toArray, List.set_cons_zero, List.set_cons_succ]
                  refine wpAnyR_take (i := 4) (v := ?_) rfl (by kernel_rfl) (by kernel_rfl) (by kernel_rfl) (by kernel_rfl) (fun _ _ _ h => h) hS0 (Or.inl ⟨by rfl, fun w hSw => ?_⟩) ?_
                  rotate_left
                  · (dsimp only at hSw; go_simp; try (with_reducible rfl))
                  simp only [Act.put, List.setIfInBounds_toArray, List.set_cons_zero, List.set_cons_succ]
                  refine wpAnyR_take (i := 5) (v := ?_) rfl (by kernel_rfl) (by kernel_rfl) (by kernel_rfl) (by kernel_rfl) (fun _ _ _ h => h) hS0 (Or.inl ⟨by rfl, fun w hSw => ?_⟩) ?_
                  rotate_left
                  · (dsimp only at hSw; go_simp; try (with_reducible rfl))
                  simp only [Act.put, List.setIfInBounds_toArray, List.set_cons_zero, List.set_cons_succ]
                  refine wpAnyR_take (i := 6) (v := ?_) rfl (by kernel_rfl) (by kernel_rfl) (by kernel_rfl) (by kernel_rfl) (fun _ _ _ h => h) hS0 (Or.inl ⟨by rfl, fun w hSw => ?_⟩) ?_
                  rotate_left
                  · (dsimp only at hSw; go_simp; try (with_reducible rfl))
                  simp only [Act.put, List.setIfInBounds_toArray, List.set_cons_zero, List.set_cons_succ]
                  refine wpAnyR_take (i := 7) (v := ?_) rfl (by kernel_rfl) (by kernel_rfl) (by kernel_rfl) (by kernel_rfl) (fun _ _ _ h => h) hS0 (Or.inl ⟨by rfl, fun w hSw => ?_⟩) ?_
                  rotate_left
                  · (dsimp only at hSw; go_simp; try (with_reducible rfl))
                  simp only [Act.put, List.setIfInBounds_toArray, List.set_cons_zero, List.set_cons_succ]
                  refine wpAnyR_take (i := 8) (v := ?_) rfl (by kernel_rfl) (by kernel_rfl) (by kernel_rfl) (by kernel_rfl) (fun _ _ _ h => h) hS0 (Or.inl ⟨by rfl, fun w hSw => ?_⟩) ?_
                  rotate_left
                  · (dsimp only at hSw; go_simp; try (with_reducible rfl))
                  simp only [Act.put, List.setIfInBounds_toArray, List.set_cons_zero, List.set_cons_succ]
                  refine wpAnyR_take (i := 9) (v := ?_) rfl (by kernel_rfl) (by kernel_rfl) (by kernel_rfl) (by kernel_rfl) (fun _ _ _ h => h) hS0 (Or.inl ⟨by rfl, fun w hSw => ?_⟩) ?_
                  rotate_left
                  · (dsimp only at hSw; go_simp; try (with_reducible rfl))
                  simp only [Act.put, List.setIfInBounds_toArray, List.set_cons_zero, List.set_cons_succ]
                  refine wpAnyR_take (i := 10) (v := ?_) rfl (by kernel_rfl) (by kernel_rfl) (by kernel_rfl) (by kernel_rfl) (fun _ _ _ h => h) hS0 (Or.inl ⟨by rfl, fun w hSw => ?_⟩) ?_
                  rotate_left
                  · (dsimp only at hSw; go_simp; try (with_reducible rfl))
                  simp only [Act.put, List.setIfInBounds_toArray, List.set_cons_zero, List.set_cons_succ]
                  refine wpAnyR_take (i := 11) (v := .slice Ap left cp) rfl (by kernel_rfl) (by kernel_rfl) (by kernel_rfl) (by kernel_rfl) (fun _ _ _ h => h) hS0 (Or.inl ⟨by rfl, fun w hSw => ?_⟩) ?_
                  · dsimp only at hSw
                    go_simp
                  simp only [Act.put, List.setIfInBounds_toArray, List.set_cons_zero, List.set_cons_succ]
                  refine wpAnyR_one (k := 12) rfl (by kernel_rfl) (fun K hK => ?_)
                  refine step_append_gen _ (by rfl) (.tmp 70) (.tmp 76) 31 (by rfl) (w.heap.size + 1) 5 i0 _ 1 1 Tryd.underlying31 hi0 hz0 hz1 hz2 rfl (by omega) (.slice Ak dl ck) dl (bytesV d) (by simp [Act.eval, Act.put]) (own_drew (own_drewN HOWN.out nq)) Ap left cp (bytesV (p.take left)) (by simp [Act.eval, Act.put]) HBV.out (HNW nq).out (bytesV_one _) (by unfold maxLen; omega) (by omega) (by show w.heap.size + 1 ≤ wz.heap.size; omega) ?_
                  intro A2 c2 w2 hap
                  have hK2 : Kept (fun j => some j = (Value.slice Ak dl ck).ownBlock) wz w2 := (((Kept.refl _ wz).drewN nq).drew).trans hap.kept fun _ _ e => e
                  have hs2 := hK2.size
                  have hown0 : ∀ j, (Value.slice Ak dl ck).ownBlock = some j → w.heap.size + 1 ≤ j ∧ j ≠ tb ∧ j ≠ wy.heap.size := fun j e => ⟨(own_block_lt HOWN.out e).1, HON.out j e, HOX.out j e⟩
                  have r3 := (hK2.cell (p := ⟨tb, m, none⟩) htbl (fun e => (hown0 tb e.symm).2.1 rfl)).trans g3
                  have r1 := (hK2.cell (p := ⟨pb, poff + q, none⟩) (show pb < wz.heap.size by omega) (fun e => by have := (hown0 pb e.symm).1; omega)).trans gz
                  have B3 := HTBK.out.kept hK2 (fun e => (hown0 tb e.symm).2.1 rfl)
                  have f3 := B3.frozen m
                  have BX := HXB.out.kept hK2 (fun e => (hown0 _ e.symm).2.2 rfl)
                  have y0 := BX.cell 0
                  have y1 := BX.cell 1
                  have y2 := BX.cell 2
                  have fz0 := BX.frozen 0
                  have fz1 := BX.frozen 1
                  have fz2 := BX.frozen 2
                  simp at y0 y1 y2
                  obtain ⟨hT2, hK3, hB3⟩ := HPUT.out nq w2 A2 c2 (dl + left) hap
                  have HT2 := Lib.hid hT2
                  have HK3 := Lib.hid hK3
                  have HB3 := Lib.hid hB3
                  have HBX := Lib.hid BX
                  clear hap hK2 hT2 hK3 hB3 hown0 B3 BX
                  refine hK.out _ _ (fun hne => ⟨r3, r1⟩) ?_
                  clear hK K
                  try simp only [Act.put, List.setIfInBounds_toArray, List.set_cons_zero, List.set_cons_succ]
                  refine wpAnyR_one (k := 13) rfl (by kernel_rfl) (fun K hK => ?_)
                  go_simp
                  refine hK.out _ _ (fun hne => ⟨r3, r1⟩) ?_
                  clear hK K
                  try simp only [Act.put, List.setIfInBounds_toArray, List.set_cons_zero, List.set_cons_succ]
                  refine wpAnyR_one (k := 14) rfl (by kernel_rfl) (fun K hK => ?_)
                  go_simp
                  refine hK.out _ _ (fun hne => absurd rfl hne) ?_
                  clear hK K
                  try simp only [Act.put, List.setIfInBounds_toArray, List.set_cons_zero, List.set_cons_succ]
                  refine wpAnyR_done (by kernel_rfl) ?_ _
                  clear hS0 g3 gz r3 HNW hsl
                  go_wp2_with fail
                  have HKX : Hid (Kept (· = wy.heap.size) (w2.setCell ⟨tb, m, none⟩ (.slice A2 (dl + left) c2)) ((((w2.setCell ⟨tb, m, none⟩ (.slice A2 (dl + left) c2)).setCell ⟨wy.heap.size, 0, none⟩ (.slice none 0 0)).setCell ⟨wy.heap.size, 1, none⟩ (.int .i64 (left : Int))).setCell ⟨wy.heap.size, 2, none⟩ (.int .i64 3))) := Lib.hid ((((Kept.refl (· = wy.heap.size) _).setCell (p := ⟨wy.heap.size, 0, none⟩) (fun _ => rfl) _).setCell (p := ⟨wy.heap.size, 1, none⟩) (fun _ => rfl) _).setCell (p := ⟨wy.heap.size, 2, none⟩) (fun _ => rfl) _)
                  have HX5 : Hid (Blk ((((w2.setCell ⟨tb, m, none⟩ (.slice A2 (dl + left) c2)).setCell ⟨wy.heap.size, 0, none⟩ (.slice none 0 0)).setCell ⟨wy.heap.size, 1, none⟩ (.int .i64 (left : Int))).setCell ⟨wy.heap.size, 2, none⟩ (.int .i64 3)) wy.heap.size 38 #[.slice none 0 0, .int .i64 (left : Int), .int .i64 3]) := Lib.hid (by
                    have := (((HBX.out.far (p := ⟨tb, m, none⟩) (fun e => hxt e) (.slice A2 (dl + left) c2)).put 0 (.slice none 0 0)).put 1 (.int .i64 (left : Int))).put 2 (.int .i64 3)
                    simpa using this)
                  have HT5 := Lib.hid (HT2.out.kept HKX.out (fun _ e => hxt e.symm) (fun b hb e => by
                    rcases HB3.out b hb with h' | h'
                    · rcases HBB.out b h' with h2 | h2
                      · have := (HTY.out.lt h2).2; omega
                      · omega
                    · omega))
                  have HK5 : Hid (Kept (fun j => (0 < k ∧ j = tb) ∨ j = wy.heap.size ∨ TkB TA TC (ss.map (·.2)) j) (wy.alloc (.cells #[.slice none 0 0, .int .i64 (pl : Int), .int .i64 0] 38)) ((((w2.setCell ⟨tb, m, none⟩ (.slice A2 (dl + left) c2)).setCell ⟨wy.heap.size, 0, none⟩ (.slice none 0 0)).setCell ⟨wy.heap.size, 1, none⟩ (.int .i64 (left : Int))).setCell ⟨wy.heap.size, 2, none⟩ (.int .i64 3))) := Lib.hid ((HKZ.out.trans HK3.out fun j hj hD => by
                    rcases hD with h' | h'
                    · exact .inl ⟨by omega, h'⟩
                    · rcases HBB.out j h' with h2 | h2
                      · exact .inr (.inr h2)
                      · simp at hj; omega).trans HKX.out fun j hj hD => .inr (.inl hD))
                  have HB5 : Hid (∀ b, TkB (fun i => if i = m then A2 else TA' i) (fun i => if i = m then c2 else TC' i) (((mwCur ss p m).set m (left - left, d ++ p.take left)).map (·.2)) b → TkB TA TC (ss.map (·.2)) b ∨ wy.heap.size + 1 ≤ b) := Lib.hid fun b hb => by
                    rcases HB3.out b hb with h' | h'
                    · exact HBB.out b h'
                    · exact .inr (by omega)
                  clear HK3 HB3 HBX HKX y0 y1 y2 fz0 fz1 fz2 f3 r1
                  go_roundg (k - (m + 1))
                  case measure => omega
                  case rel => exact ⟨m + 1, _, _, (mwCur ss p m).set m (left - left, d ++ p.take left), left, 3, by omega, rfl, by go_num, HT5, HX5, HK5, HB5, .inr ⟨rfl, HSTP⟩⟩
                · have HTL : Hid (p.length = pl) := Lib.hid HPP.out
                  have HBYT := Lib.hid HBYZ.out
                  have hnx2 : (mwCur ss p m).set m (left - pl, d ++ p) = mwCur ss p (m + 1) := by rw [← HPP.out]; exact hnx
                  have HPUT : Hid (∀ (nq : Nat) (w2 : World) (A2 : Option Addr) (c2 mm : Nat), Appended (w.heap.size + 1) 5 1 A2 mm c2 (bytesV d ++ bytesV p) (Value.slice Ak d.length ck).ownBlock ((wz.drewN nq).drew) w2 → _) := Lib.hid fun nq w2 A2 c2 mm hap => hput nq w2 A2 c2 mm p (by have := hap.own.1; rw [List.length_append, bytesV_length, bytesV_length] at this; omega) hap
                  have hs1 := hsetm (left - pl, d ++ p)
                  rw [hnx2] at hs1
                  simp only at hs1
                  rw [hs1] at HPUT
                  have HSTP : Hid (∀ x ∈ ss.take (m + 1), p.length ≤ x.1) := Lib.hid fun x hx => by
                    rw [htk1] at hx
                    rcases List.mem_append.1 hx with h' | h'
                    · exact HDN.out x h'
                    · have := List.mem_singleton.1 h'
                      subst this
                      simp only
                      rw [HPP.out]; omega
                  have hmin : (if (left : Int) < (pl : Int) then (left : Int) else (pl : Int)) = (pl : Int) := by split <;> omega
                  have hmin2 : (if left < pl then (left : Int) else (pl : Int)) = (pl : Int) := by split <;> omega
                  have hfl' : ¬ (left : Int) < (pl : Int) := by omega
                  clear hput hst1 hnx htk1 hsetm hs1 hnx2
                  generalize d.length = dl at *
                  have hsl := fun w' : World => slice_bytes_to Ap pl cp pl (by omega) w'
                  have HBV := Lib.hid (show (bytesV (p)).length = pl * 1 by rw [bytesV_length, HTL.out]; omega)
                  have HNW := fun nq => Lib.hid (show NewsAt ((wz.drewN nq).drew) Ap pl (bytesV (p)) by have := (HBYT.out).news; rw [HTL.out] at this; exact this)
                  go_wp2_with fail
                  go_quiet (fail)
                  go_wp2_with fail
                  have hS0 : ((wz.drewN nq).drew).cell? ⟨tb, m, none⟩ = some (.slice Ak dl ck) ∧ ((wz.drewN nq).drew).cell? ⟨pb, poff + q, none⟩ = some (.slice Ap pl cp) := ⟨g3, gz⟩
                  refine wp_region_R (S := fun w' => w'.cell? ⟨tb, m, none⟩ = some (.slice Ak dl ck) ∧ w'.cell? ⟨pb, poff + q, none⟩ = some (.slice Ap pl cp)) (late := 14) (by kernel_rfl) ?_
                  refine wpAnyR_take (i := 0) (v := ?_) rfl (by kernel_rfl) (by kernel_rfl) (by kernel_rfl) (by kernel_rfl) (fun _ _ _ h => h) hS0 (Or.inl ⟨by rfl, fun w hSw => ?_⟩) ?_
                  rotate_left
                  · (dsimp only at hSw; go_simp; try (with_reducible rfl))
                  simp only [Act.put, List.setIfInBounds_toArray, List.set_cons_zero, List.set_cons_succ]
                  refine wpAnyR_take (i := 1) (v := ?_) rfl (by kernel_rfl) (by kernel_rfl) (by kernel_rfl) (by kernel_rfl) (fun _ _ _ h => h) hS0 (Or.inl ⟨by rfl, fun w hSw => ?_⟩) ?_
                  rotate_left
                  · (dsimp only at hSw; go_simp; try (with_reducible rfl))
                  simp only [Act.put, List.setIfInBounds_toArray, List.set_cons_zero, List.set_cons_succ]
                  refine wpAnyR_take (i := 2) (v := ?_) rfl (by kernel_rfl) (by kernel_rfl) (by kernel_rfl) (by kernel_rfl) (fun _ _ _ h => h) hS0 (Or.inl ⟨by rfl, fun w hSw => ?_⟩) ?_
                  rotate_left
                  · (dsimp only at hSw; go_simp; try (with_reducible rfl))
                  simp only [Act.put, List.setIfInBounds_toArray, List.set_cons_zero, List.set_cons_succ]
                  refine wpAnyR_take (i := 3) (v := ?_) rfl (by kernel_rfl) (by kernel_rfl) (by kernel_rfl) (by kernel_rfl) (fun _ _ _ h => h) hS0 (Or.inl ⟨by rfl, fun w hSw => ?_⟩) ?_
                  rotate_left
                  · (dsimp only at hSw; go_simp; try (with_reducible rfl))
                  simp only [Act.put, List.setIfInBounds_toArray, List.set_cons_zero, List.set_cons_succ]
                  refine wpAnyR_take (i := 4) (v := ?_) rfl (by kernel_rfl) (by kernel_rfl) (by kernel_rfl) (by kernel_rfl) (fun _ _ _ h => h) hS0 (Or.inl ⟨by rfl, fun w hSw => ?_⟩) ?_
                  rotate_left
                  · (dsimp only at hSw; go_simp; try (with_reducible rfl))
                  simp only [Act.put, List.setIfInBounds_toArray, List.set_cons_zero, List.set_cons_succ]
                  refine wpAnyR_take (i := 5) (v := ?_) rfl (by kernel_rfl) (by kernel_rfl) (by kernel_rfl) (by kernel_rfl) (fun _ _ _ h => h) hS0 (Or.inl ⟨by rfl, fun w hSw => ?_⟩) ?_
                  rotate_left
                  · (dsimp only at hSw; go_simp; try (with_reducible rfl))
                  simp only [Act.put, List.setIfInBounds_toArray, List.set_cons_zero, List.set_cons_succ]
                  refine wpAnyR_take (i := 6) (v := ?_) rfl (by kernel_rfl) (by kernel_rfl) (by kernel_rfl) (by kernel_rfl) (fun _ _ _ h => h) hS0 (Or.inl ⟨by rfl, fun w hSw => ?_⟩) ?_
                  rotate_left
                  · (dsimp only at hSw; go_simp; try (with_reducible rfl))
                  simp only [Act.put, List.setIfInBounds_toArray, List.set_cons_zero, List.set_cons_succ]
                  refine wpAnyR_take (i := 7) (v := ?_) rfl (by kernel_rfl) (by kernel_rfl) (by kernel_rfl) (by kernel_rfl) (fun _ _ _ h => h) hS0 (Or.inl ⟨by rfl, fun w hSw => ?_⟩) ?_
                  rotate_left
                  · (dsimp only at hSw; go_simp; try (with_reducible rfl))
                  simp only [Act.put, List.setIfInBounds_toArray, List.set_cons_zero, List.set_cons_succ]
                  refine wpAnyR_take (i := 8) (v := ?_) rfl (by kernel_rfl) (by kernel_rfl) (by kernel_rfl) (by kernel_rfl) (fun _ _ _ h => h) hS0 (Or.inl ⟨by rfl, fun w hSw => ?_⟩) ?_
                  rotate_left
                  · (dsimp only at hSw; go_simp; try (with_reducible rfl))
                  simp only [Act.put, List.setIfInBounds_toArray, List.set_cons_zero, List.set_cons_succ]
                  refine wpAnyR_take (i := 9) (v := ?_) rfl (by kernel_rfl) (by kernel_rfl) (by kernel_rfl) (by kernel_rfl) (fun _ _ _ h => h) hS0 (Or.inl ⟨by rfl, fun w hSw => ?_⟩) ?_
                  rotate_left
                  · (dsimp only at hSw; go_simp; try (with_reducible rfl))
                  simp only [Act.put, List.setIfInBounds_toArray, List.set_cons_zero, List.set_cons_succ]
                  refine wpAnyR_take (i := 10) (v := ?_) rfl (by kernel_rfl) (by kernel_rfl) (by kernel_rfl) (by kernel_rfl) (fun _ _ _ h => h) hS0 (Or.inl ⟨by rfl, fun w hSw => ?_⟩) ?_
                  rotate_left
                  · (dsimp only at hSw; go_simp; try (with_reducible rfl))
                  simp only [Act.put, List.setIfInBounds_toArray, List.set_cons_zero, List.set_cons_succ]
                  refine wpAnyR_take (i := 11) (v := .slice Ap pl cp) rfl (by kernel_rfl) (by kernel_rfl) (by kernel_rfl) (by kernel_rfl) (fun _ _ _ h => h) hS0 (Or.inl ⟨by rfl, fun w hSw => ?_⟩) ?_
                  · dsimp only at hSw
                    go_simp
                  simp only [Act.put, List.setIfInBounds_toArray, List.set_cons_zero, List.set_cons_succ]
                  refine wpAnyR_one (k := 12) rfl (by kernel_rfl) (fun K hK => ?_)
                  refine step_append_gen _ (by rfl) (.tmp 70) (.tmp 76) 31 (by rfl) (w.heap.size + 1) 5 i0 _ 1 1 Tryd.underlying31 hi0 hz0 hz1 hz2 rfl (by omega) (.slice Ak dl ck) dl (bytesV d) (by simp [Act.eval, Act.put]) (own_drew (own_drewN HOWN.out nq)) Ap pl cp (bytesV (p)) (by simp [Act.eval, Act.put]) HBV.out (HNW nq).out (bytesV_one _) (by unfold maxLen; omega) (by omega) (by show w.heap.size + 1 ≤ wz.heap.size; omega) ?_
                  intro A2 c2 w2 hap
                  have hK2 : Kept (fun j => some j = (Value.slice Ak dl ck).ownBlock) wz w2 := (((Kept.refl _ wz).drewN nq).drew).trans hap.kept fun _ _ e => e
                  have hs2 := hK2.size
                  have hown0 : ∀ j, (Value.slice Ak dl ck).ownBlock = some j → w.heap.size + 1 ≤ j ∧ j ≠ tb ∧ j ≠ wy.heap.size := fun j e => ⟨(own_block_lt HOWN.out e).1, HON.out j e, HOX.out j e⟩
                  have r3 := (hK2.cell (p := ⟨tb, m, none⟩) htbl (fun e => (hown0 tb e.symm).2.1 rfl)).trans g3
                  have r1 := (hK2.cell (p := ⟨pb, poff + q, none⟩) (show pb < wz.heap.size by omega) (fun e => by have := (hown0 pb e.symm).1; omega)).trans gz
                  have B3 := HTBK.out.kept hK2 (fun e => (hown0 tb e.symm).2.1 rfl)
                  have f3 := B3.frozen m
                  have BX := HXB.out.kept hK2 (fun e => (hown0 _ e.symm).2.2 rfl)
                  have y0 := BX.cell 0
                  have y1 := BX.cell 1
                  have y2 := BX.cell 2
                  have fz0 := BX.frozen 0
                  have fz1 := BX.frozen 1
                  have fz2 := BX.frozen 2
                  simp at y0 y1 y2
                  obtain ⟨hT2, hK3, hB3⟩ := HPUT.out nq w2 A2 c2 (dl + pl) hap
                  have HT2 := Lib.hid hT2
                  have HK3 := Lib.hid hK3
                  have HB3 := Lib.hid hB3
                  have HBX := Lib.hid BX
                  clear hap hK2 hT2 hK3 hB3 hown0 B3 BX
                  refine hK.out _ _ (fun hne => ⟨r3, r1⟩) ?_
                  clear hK K
                  try simp only [Act.put, List.setIfInBounds_toArray, List.set_cons_zero, List.set_cons_succ]
                  refine wpAnyR_one (k := 13) rfl (by kernel_rfl) (fun K hK => ?_)
                  go_simp
                  refine hK.out _ _ (fun hne => ⟨r3, r1⟩) ?_
                  clear hK K
                  try simp only [Act.put, List.setIfInBounds_toArray, List.set_cons_zero, List.set_cons_succ]
                  refine wpAnyR_one (k := 14) rfl (by kernel_rfl) (fun K hK => ?_)
                  go_simp
                  refine hK.out _ _ (fun hne => absurd rfl hne) ?_
                  clear hK K
                  try simp only [Act.put, List.setIfInBounds_toArray, List.set_cons_zero, List.set_cons_succ]
                  refine wpAnyR_done (by kernel_rfl) ?_ _
                  clear hS0 g3 gz r3 HNW hsl
                  go_wp2_with fail
                  have HX5 : Hid (Blk (w2.setCell ⟨tb, m, none⟩ (.slice A2 (dl + pl) c2)) wy.heap.size 38 #[.slice none 0 0, .int .i64 (pl : Int), .int .i64 0]) := Lib.hid (HBX.out.far (p := ⟨tb, m, none⟩) (fun e => hxt e) _)
                  have HK5 : Hid (Kept (fun j => (0 < k ∧ j = tb) ∨ j = wy.heap.size ∨ TkB TA TC (ss.map (·.2)) j) (wy.alloc (.cells #[.slice none 0 0, .int .i64 (pl : Int), .int .i64 0] 38)) (w2.setCell ⟨tb, m, none⟩ (.slice A2 (dl + pl) c2))) := Lib.hid (HKZ.out.trans HK3.out fun j hj hD => by
                    rcases hD with h' | h'
                    · exact .inl ⟨by omega, h'⟩
                    · rcases HBB.out j h' with h2 | h2
                      · exact .inr (.inr h2)
                      · simp at hj; omega)
                  have HB5 : Hid (∀ b, TkB (fun i => if i = m then A2 else TA' i) (fun i => if i = m then c2 else TC' i) ((mwCur ss p (m + 1)).map (·.2)) b → TkB TA TC (ss.map (·.2)) b ∨ wy.heap.size + 1 ≤ b) := Lib.hid fun b hb => by
                    rcases HB3.out b hb with h' | h'
                    · exact HBB.out b h'
                    · exact .inr (by omega)
                  clear HK3 HB3 HBX y0 y1 y2 fz0 fz1 fz2 f3 r1
                  go_roundg (k - (m + 1))
                  case measure => omega
                  case rel => exact ⟨m + 1, _, _, mwCur ss p (m + 1), pl, 0, by omega, rfl, by go_num, HT2, HX5, HK5, HB5, .inl ⟨rfl, Lib.hid ⟨rfl, rfl, HSTP.out⟩⟩⟩
              · have HST : Hid (mwStep ss p = ((xn, 0), cur)) := Lib.hid (by
                  obtain ⟨hxn, hcur, hdn⟩ := HS.out
                  have htk : ss.take m = ss := List.take_of_length_le (by rw [HSL.out]; omega)
                  have h1 := mwStep_at (ss := ss) (k := m) (p := p) (done := ss) (rest := []) (by simp) (by rw [HSL.out]; omega) (by rw [htk] at hdn; exact hdn)
                  rw [h1, hcur, hxn]
                  unfold mwCur
                  rw [htk, List.drop_of_length_le (by rw [HSL.out]; omega)]
                  simp only [mwStep]
                  rw [HPP.out])
                have HO9 := Lib.hid (HRW.out.kept mvO HKZ.out (fun j e hD => by
                  obtain ⟨cs', hb'⟩ := own_type HRY.out.own e
                  rcases hD with ⟨hn0, h'⟩ | h' | h'
                  · obtain ⟨cur', hbk', _⟩ := HTY.out.blk (by rw [List.length_map, HSL.out]; exact hn0)
                    subst h'
                    exact (hb'.ne_of hbk' (by decide)) rfl
                  · have := (own_block_lt HRY.out.own e).2
                    omega
                  · exact HTY.out.ne h' hb' (by decide) rfl) (fun _ hf => hf.elim))
                have HEL : Hid (ElO (fun _ => False) wr [.slice none 0 0, .int .i64 (xn : Int), .int .i64 0] ([], (xn : Int), 0)) := Lib.hid ⟨none, 0, rfl, Nat.le_refl _, BytesAt.nil _ _ _⟩
                have q0 := HXB.out.cell 0
                have q1 := HXB.out.cell 1
                have q2 := HXB.out.cell 2
                simp at q0 q1 q2
                have HRN : Hid (mwRuns (ps.drop q) ss = ((xn, 0) :: (mwRuns (ps.drop (q + 1)) cur).1, (mwRuns (ps.drop (q + 1)) cur).2)) := Lib.hid (by rw [HRU2.out, HST.out])
                have HLC : Hid (cur.length = k) := Lib.hid (by have := mwStep_length ss p; rw [HST.out] at this; exact this.trans HSL.out)
                have HSC : Hid (SumIs lims cur) := Lib.hid (by have := HSU.out.step p; rw [HST.out] at this; exact this)
                have HBC : Hid (∀ x ∈ cur, x.2.length + (ps.drop (q + 1)).flatten.length ≤ 70368744177664) := Lib.hid fun x hx => by
                  have h1 := HB2.out
                  rw [HST.out] at h1
                  exact h1 x hx
                have hszz := HKZ.out.size
                have HBW := HBZ
                have hszw := HBW.out.size
                go_wp2_with (at_builtin; refine wpList_append_gen _ rfl (.tmp 88) (.tmp 90) 25 rfl w.heap.size 38 i1 _ 3 40 Tryd.underlying25 hi1 hy0 hy1 hy2 rfl (by omega) _ q xs rfl (HO9.out.own.alloc _) (some ⟨wr.heap.size, 0, none⟩) 1 1 [.slice none 0 0, .int .i64 (xn : Int), .int .i64 0] rfl (by rfl) ((Blk.new wr 38 #[.slice none 0 0, .int .i64 (xn : Int), .int .i64 0]).news 1) (by simp [Value.oneCell']) (by unfold maxLen; omega) (by omega) (by simp; omega) ?_)
                intro A8 c8 w8 hap
                have HR8 := Lib.hid (HO9.out.snoc mvO (x := (([] : List Int), (xn : Int), (0 : Int))) ((Kept.refl (fun _ => False) wr).alloc _) hap (fun _ hf => hf.elim) rfl HEL.out)
                have hK8 : Kept (fun j => some j = (Value.slice A3 q c3).ownBlock) wr w8 := ((Kept.refl _ wr).alloc _).trans hap.kept fun _ _ e => e
                have HT8 := Lib.hid (HTZ.out.kept hK8 (fun hp e => by
                  obtain ⟨cs', hb'⟩ := own_type HO9.out.own e.symm
                  obtain ⟨cur', hbk', _⟩ := HTZ.out.blk hp
                  exact (hb'.ne_of hbk' (by decide)) rfl) (fun b hb e => by
                  obtain ⟨cs', hb'⟩ := own_type HO9.out.own e.symm
                  exact HTZ.out.ne hb hb' (by decide) rfl))
                have HB8 : Hid (Below w.heap.size w w8) := Lib.hid (HBW.out.trans (hK8.below (by omega) fun j hj e => by have := (own_block_lt HO9.out.own e.symm).1; omega))
                have e8 : (done.map fun x => (([] : List Int), (x.1 : Int), x.2)) ++ [([], (xn : Int), (0 : Int))] = ((done ++ [(xn, (0 : Int))]).map fun x => (([] : List Int), (x.1 : Int), x.2)) := by rw [List.map_append]; rfl
                rw [e8] at HR8
                clear hap hK8 e8 q0 q1 q2
                go_wp2_with fail
                go_roundg (np - (q + 1))
                case measure => omega
                case rel => exact ⟨q + 1, A8, c8, _, TA', TC', cur, done ++ [(xn, 0)], by omega, rfl, by go_num, rfl, HR8, HT8, Lib.hid (by rw [HRU.out, HRN.out, List.append_assoc]; rfl), HBC, HSC, HLC, HB8⟩
            · by_cases hltm : m < k
              · have gx := HXB.out.cell 2
                simp at gx
                have HO9 := Lib.hid (HRW.out.kept mvO HKZ.out (fun j e hD => by
                  obtain ⟨cs', hb'⟩ := own_type HRY.out.own e
                  rcases hD with ⟨hn0, h'⟩ | h' | h'
                  · obtain ⟨cur', hbk', _⟩ := HTY.out.blk (by rw [List.length_map, HSL.out]; exact hn0)
                    subst h'
                    exact (hb'.ne_of hbk' (by decide)) rfl
                  · have := (own_block_lt HRY.out.own e).2
                    omega
                  · exact HTY.out.ne h' hb' (by decide) rfl) (fun _ hf => hf.elim))
                have HEL : Hid (ElO (fun _ => False) wr [.slice none 0 0, .int .i64 (xn : Int), .int .i64 3] ([], (xn : Int), 3)) := Lib.hid ⟨none, 0, rfl, Nat.le_refl _, BytesAt.nil _ _ _⟩
                have q0 := HXB.out.cell 0
                have q1 := HXB.out.cell 1
                have q2 := HXB.out.cell 2
                simp at q0 q1 q2
                have HRN : Hid (mwRuns (ps.drop q) ss = ((xn, 3) :: (mwRuns (ps.drop (q + 1)) cur).1, (mwRuns (ps.drop (q + 1)) cur).2)) := Lib.hid (by rw [HRU2.out, HST.out])
                have HLC : Hid (cur.length = k) := Lib.hid (by have := mwStep_length ss p; rw [HST.out] at this; exact this.trans HSL.out)
                have HSC : Hid (SumIs lims cur) := Lib.hid (by have := HSU.out.step p; rw [HST.out] at this; exact this)
                have HBC : Hid (∀ x ∈ cur, x.2.length + (ps.drop (q + 1)).flatten.length ≤ 70368744177664) := Lib.hid fun x hx => by
                  have h1 := HB2.out
                  rw [HST.out] at h1
                  exact h1 x hx
                have hszz := HKZ.out.size
                have HBW := HBZ
                have hszw := HBW.out.size
                go_wp2_with (at_builtin; refine wpList_append_gen _ rfl (.tmp 88) (.tmp 90) 25 rfl w.heap.size 38 i1 _ 3 40 Tryd.underlying25 hi1 hy0 hy1 hy2 rfl (by omega) _ q xs rfl (HO9.out.own.alloc _) (some ⟨wr.heap.size, 0, none⟩) 1 1 [.slice none 0 0, .int .i64 (xn : Int), .int .i64 3] rfl (by rfl) ((Blk.new wr 38 #[.slice none 0 0, .int .i64 (xn : Int), .int .i64 3]).news 1) (by simp [Value.oneCell']) (by unfold maxLen; omega) (by omega) (by simp; omega) ?_)
                intro A8 c8 w8 hap
                have HR8 := Lib.hid (HO9.out.snoc mvO (x := (([] : List Int), (xn : Int), (3 : Int))) ((Kept.refl (fun _ => False) wr).alloc _) hap (fun _ hf => hf.elim) rfl HEL.out)
                have hK8 : Kept (fun j => some j = (Value.slice A3 q c3).ownBlock) wr w8 := ((Kept.refl _ wr).alloc _).trans hap.kept fun _ _ e => e
                have HT8 := Lib.hid (HTZ.out.kept hK8 (fun hp e => by
                  obtain ⟨cs', hb'⟩ := own_type HO9.out.own e.symm
                  obtain ⟨cur', hbk', _⟩ := HTZ.out.blk hp
                  exact (hb'.ne_of hbk' (by decide)) rfl) (fun b hb e => by
                  obtain ⟨cs', hb'⟩ := own_type HO9.out.own e.symm
                  exact HTZ.out.ne hb hb' (by decide) rfl))
                have HB8 : Hid (Below w.heap.size w w8) := Lib.hid (HBW.out.trans (hK8.below (by omega) fun j hj e => by have := (own_block_lt HO9.out.own e.symm).1; omega))
                have e8 : (done.map fun x => (([] : List Int), (x.1 : Int), x.2)) ++ [([], (xn : Int), (3 : Int))] = ((done ++ [(xn, (3 : Int))]).map fun x => (([] : List Int), (x.1 : Int), x.2)) := by rw [List.map_append]; rfl
                rw [e8] at HR8
                clear hap hK8 e8 q0 q1 q2
                go_wp2_with fail
                go_roundg (np - (q + 1))
                case measure => omega
                case rel => exact ⟨q + 1, A8, c8, _, TA', TC', cur, done ++ [(xn, 3)], by omega, rfl, by go_num, rfl, HR8, HT8, Lib.hid (by rw [HRU.out, HRN.out, List.append_assoc]; rfl), HBC, HSC, HLC, HB8⟩
              · skip
                have HO9 := Lib.hid (HRW.out.kept mvO HKZ.out (fun j e hD => by
                  obtain ⟨cs', hb'⟩ := own_type HRY.out.own e
                  rcases hD with ⟨hn0, h'⟩ | h' | h'
                  · obtain ⟨cur', hbk', _⟩ := HTY.out.blk (by rw [List.length_map, HSL.out]; exact hn0)
                    subst h'
                    exact (hb'.ne_of hbk' (by decide)) rfl
                  · have := (own_block_lt HRY.out.own e).2
                    omega
                  · exact HTY.out.ne h' hb' (by decide) rfl) (fun _ hf => hf.elim))
                have HEL : Hid (ElO (fun _ => False) wr [.slice none 0 0, .int .i64 (xn : Int), .int .i64 3] ([], (xn : Int), 3)) := Lib.hid ⟨none, 0, rfl, Nat.le_refl _, BytesAt.nil _ _ _⟩
                have q0 := HXB.out.cell 0
                have q1 := HXB.out.cell 1
                have q2 := HXB.out.cell 2
                simp at q0 q1 q2
                have HRN : Hid (mwRuns (ps.drop q) ss = ((xn, 3) :: (mwRuns (ps.drop (q + 1)) cur).1, (mwRuns (ps.drop (q + 1)) cur).2)) := Lib.hid (by rw [HRU2.out, HST.out])
                have HLC : Hid (cur.length = k) := Lib.hid (by have := mwStep_length ss p; rw [HST.out] at this; exact this.trans HSL.out)
                have HSC : Hid (SumIs lims cur) := Lib.hid (by have := HSU.out.step p; rw [HST.out] at this; exact this)
                have HBC : Hid (∀ x ∈ cur, x.2.length + (ps.drop (q + 1)).flatten.length ≤ 70368744177664) := Lib.hid fun x hx => by
                  have h1 := HB2.out
                  rw [HST.out] at h1
                  exact h1 x hx
                have hszz := HKZ.out.size
                have HBW := HBZ
                have hszw := HBW.out.size
                go_wp2_with (at_builtin; refine wpList_append_gen _ rfl (.tmp 88) (.tmp 90) 25 rfl w.heap.size 38 i1 _ 3 40 Tryd.underlying25 hi1 hy0 hy1 hy2 rfl (by omega) _ q xs rfl (HO9.out.own.alloc _) (some ⟨wr.heap.size, 0, none⟩) 1 1 [.slice none 0 0, .int .i64 (xn : Int), .int .i64 3] rfl (by rfl) ((Blk.new wr 38 #[.slice none 0 0, .int .i64 (xn : Int), .int .i64 3]).news 1) (by simp [Value.oneCell']) (by unfold maxLen; omega) (by omega) (by simp; omega) ?_)
                intro A8 c8 w8 hap
                have HR8 := Lib.hid (HO9.out.snoc mvO (x := (([] : List Int), (xn : Int), (3 : Int))) ((Kept.refl (fun _ => False) wr).alloc _) hap (fun _ hf => hf.elim) rfl HEL.out)
                have hK8 : Kept (fun j => some j = (Value.slice A3 q c3).ownBlock) wr w8 := ((Kept.refl _ wr).alloc _).trans hap.kept fun _ _ e => e
                have HT8 := Lib.hid (HTZ.out.kept hK8 (fun hp e => by
                  obtain ⟨cs', hb'⟩ := own_type HO9.out.own e.symm
                  obtain ⟨cur', hbk', _⟩ := HTZ.out.blk hp
                  exact (hb'.ne_of hbk' (by decide)) rfl) (fun b hb e => by
                  obtain ⟨cs', hb'⟩ := own_type HO9.out.own e.symm
                  exact HTZ.out.ne hb hb' (by decide) rfl))
                have HB8 : Hid (Below w.heap.size w w8) := Lib.hid (HBW.out.trans (hK8.below (by omega) fun j hj e => by have := (own_block_lt HO9.out.own e.symm).1; omega))
                have e8 : (done.map fun x => (([] : List Int), (x.1 : Int), x.2)) ++ [([], (xn : Int), (3 : Int))] = ((done ++ [(xn, (3 : Int))]).map fun x => (([] : List Int), (x.1 : Int), x.2)) := by rw [List.map_append]; rfl
                rw [e8] at HR8
                clear hap hK8 e8 q0 q1 q2
                go_wp2_with fail
                go_roundg (np - (q + 1))
                case measure => omega
                case rel => exact ⟨q + 1, A8, c8, _, TA', TC', cur, done ++ [(xn, 3)], by omega, rfl, by go_num, rfl, HR8, HT8, Lib.hid (by rw [HRU.out, HRN.out, List.append_assoc]; rfl), HBC, HSC, HLC, HB8⟩
        · have hqn : ps.drop q = [] := List.drop_of_length_le (by have := HPL.out; omega)
          rw [hqn] at HRU
          simp only [mwRuns, List.append_nil] at HRU
          have HPO : Hid (MwiPost (mwRuns ps (lims.map fun l => (l.toNat, []))) w (.returned (.tuple #[.slice A3 q c3, .slice A' k c'])) wy) := Lib.hid (by
            rw [HRU.out]
            have hl1 := HRY.out.len
            rw [List.length_map] at hl1
            have hl2 := HSL.out
            refine ⟨A3, c3, A', c', by rw [hl1, hl2], by rw [hl1]; exact own_cap HRY.out.own, by rw [hl2]; exact own_cap HR.out, ?_, ?_, HBL.out⟩
            · exact (HRY.out.els mvO).mono mvO fun j _ hj => by
                rcases hj with h' | h'
                · exact h'.elim
                · exact (own_block_lt HRY.out.own h').1
            · exact (HTY.out.els fun hp => hTB.out (by rw [List.length_map, hl2] at hp; exact hp)).mono mvB fun j _ hj => by omega)
          go_wp2_with fail
          go_ret2
          exact HPO.out

end Go.Proofs.YtmoecjhlonokfaaDoor
