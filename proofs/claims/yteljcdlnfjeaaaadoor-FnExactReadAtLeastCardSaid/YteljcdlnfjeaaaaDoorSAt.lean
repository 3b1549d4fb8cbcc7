/- The reference's atLeast. -/
import Derived.Test.YteljcdlnfjeaaaaDoorSp
set_option linter.unusedVariables false
set_option linter.unusedSimpArgs false
namespace Go.Proofs.YteljcdlnfjeaaaaDoor
open Go.RowKit

/-- what holds at the head of a round of atLeast -/
def AtInv (S : Nat → Prop) (sb : Nat) (size least : Nat) (rem : List (List Int × Int)) (L : Int) (w : World) (f : Nat) (A' : Option Addr) (n c' : Nat) (x : Int) (wr : World) : Prop :=
  ∃ data rem', data.length = n ∧ n ≤ size ∧ wr.ownsRow (w.heap.size + 1) 5 1 (.slice A' n c') n (bytesV data) ∧ Room size least f rem' data x ∧ fill L size least f rem' data x = fill L size least (rem.length + 1) rem [] 0 ∧
    SpAt S wr sb rem' L ∧ Kept (· = sb) w wr ∧ Blk wr w.heap.size 39 #[.slice none 0 0, .int .i64 0] ∧ (x = 0 ∨ x = 1 ∨ x = 2) ∧ Valid L rem'

/-- the answer of atLeast, stored into the result's cells -/
theorem at_done {S : Nat → Prop} {sb : Nat} {rem' : List (List Int × Int)} {L : Int} {w wr : World} {A' : Option Addr} {n c' : Nat} {data : List Int} {x : Int} (hn : data.length = n) (hown : wr.ownsRow (w.heap.size + 1) 5 1 (.slice A' n c') n (bytesV data)) (hsp : SpAt S wr sb rem' L) (hk : Kept (· = sb) w wr) (hS : ∀ j, S j → j < w.heap.size) (hsbl : sb < w.heap.size) :
    GotPost S sb data x rem' L w (.returned (.agg #[.slice A' n c', .int .i64 x])) ((wr.setCell ⟨w.heap.size, 0, none⟩ (.slice A' n c')).setCell ⟨w.heap.size, 1, none⟩ (.int .i64 x)) := by
  subst hn
  have hgeq : ∀ k, (Value.slice A' data.length c').ownBlock = some k → w.heap.size + 1 ≤ k := fun k e => (own_block_lt hown e).1
  have hsb : sb ≠ w.heap.size → Kept (fun j => j = w.heap.size) wr ((wr.setCell ⟨w.heap.size, 0, none⟩ (.slice A' data.length c')).setCell ⟨w.heap.size, 1, none⟩ (.int .i64 x)) := fun _ =>
    ((Kept.refl (fun j => j = w.heap.size) wr).setCell (p := ⟨w.heap.size, 0, none⟩) (fun _ => rfl) _).setCell (p := ⟨w.heap.size, 1, none⟩) (fun _ => rfl) _
  by_cases hsbw : sb = w.heap.size
  · omega
  · refine ⟨A', c', rfl, own_cap hown, ?_, hsp.kept (hsb hsbw) (fun k _ hS' e => ?_), (hk.setCell (p := ⟨w.heap.size, 0, none⟩) (fun hh => absurd hh (by simp)) _).setCell (p := ⟨w.heap.size, 1, none⟩) (fun hh => absurd hh (by simp)) _⟩
    · exact ((((own_bytes hown).mono (S' := fun k => w.heap.size + 1 ≤ k) fun k _ hk => hgeq k hk).setCell (p := ⟨w.heap.size, 0, none⟩) (by simp) _).setCell (p := ⟨w.heap.size, 1, none⟩) (by simp) _).mono fun k _ hk => Nat.le_of_succ_le hk
    · rcases hS' with h | h
      · have := hS k h; omega
      · omega

set_option maxHeartbeats 1000000 in
set_option maxRecDepth 100000 in
theorem sAtLeast_any {S : Nat → Prop} {w : World} {sb : Nat} {rem : List (List Int × Int)} {L : Int} {size least : Nat} (h : SpAt S w sb rem L) (hS : ∀ j, S j → j < w.heap.size) (hv : Valid L rem) (hle : least ≤ size) (hsz : size ≤ 70368744177664) :
    Calls Tryd.prog 35 #[.pointer (some ⟨sb, 0, none⟩), .int .i64 size, .int .i64 least] w
      (GotPost S sb (atLeast L size least rem).1.1 (atLeast L size least rem).1.2 (atLeast L size least rem).2 L w) := by
  obtain ⟨i0, hi0, hz0, hz1, hz2⟩ := info_parts infoU8
  have H := Lib.hid h
  have HV := Lib.hid hv
  have HSS := Lib.hid hS
  have hdec : decide (size < least) = false := by simp; omega
  have hsb := h.lt
  clear h hv hS
  go_enter Tryd.func35, Tryd.ntmps35
  go_wp2_with fail
  clear hdec
  go_loopg [7, 8] (rem.length + 1) (fun f v y wr => ∃ (n : Nat) (A' : Option Addr) (c' : Nat) (x : Int), v = .slice A' n c' ∧ y = .int .i64 x ∧ AtInv S sb size least rem L w f A' n c' x wr)
  case atStart =>
    refine ⟨0, _, 0, 0, rfl, rfl, [], rem, rfl, Nat.zero_le _, ?_, fun _ => Nat.le_refl _, rfl, ?_, ?_, ?_, .inl rfl, HV.out⟩
    · have := own_empty (w.alloc (.cells #[.slice none 0 0, .int .i64 0] 39)) (w.heap.size + 1) 5 1 (by simp)
      simpa [bytesV] using this
    · exact H.out.kept (((Kept.refl (fun _ => False) _).alloc _).alloc _) fun _ _ _ hf => hf
    · exact ((Kept.refl _ _).alloc _).alloc _
    · exact (Blk.new w _ _).alloc _
  case round =>
    obtain ⟨n, A', c', x, rfl, rfl, data, rem', hdn, hns, hown, hroom, hfill, hsp, hkept, hR, hx, hval⟩ := hrel
    have HDN := Lib.hid hdn
    have HOW := Lib.hid hown
    have HRO := Lib.hid hroom
    have HFI := Lib.hid hfill
    have HSP := Lib.hid hsp
    have HKE := Lib.hid hkept
    have HRB := Lib.hid hR
    have HX := Lib.hid hx
    have HVA := Lib.hid hval
    clear hdn hown hroom hfill hsp hkept hR hx hval
    by_cases hlt : n < least
    · by_cases hx0 : x = 0
      · subst hx0
        obtain ⟨f', rfl, hfill', hroom'⟩ := fill_go HVA.out.ends hle (by rw [HDN.out]; exact hlt) rfl HRO.out
        rw [HDN.out] at hfill' hroom'
        have hlen' := rd_len L rem' (size - n)
        have herr' := HVA.out.err (size - n)
        have hval' := HVA.out.rd (size - n)
        have C := sp_read (size - n) HSP.out
        generalize rd L rem' (size - n) = R at *
        obtain ⟨⟨nd, ne⟩, ns⟩ := R
        simp only at hlen'
        have e1 : ((size - n : Nat) : Int) = (size : Int) - (n : Int) := by omega
        rw [e1] at C
        have C' := Lib.hid C
        have HF' := Lib.hid hfill'
        have HR' := Lib.hid hroom'
        have HE' := Lib.hid herr'
        have HV' := Lib.hid hval'
        clear C hfill' hroom' herr' hval' e1
        go_wp2_with fail
        refine C'.out.mono ?_
        rintro e w2 ⟨Ad, cd, rfl, hcd, hbd, hsp2, hk2⟩
        have hszr := HKE.out.size
        have hsz2 := hk2.size
        have O2 := own_kept HOW.out hk2 (fun g hg _ e => by omega)
        have R2 := HRB.out.kept hk2 (fun e => by omega)
        have K2 : Kept (· = sb) w w2 := HKE.out.trans hk2 fun _ _ e => e
        have hRlt := HRB.out.lt
        have HO2 := Lib.hid O2
        have HR2 := Lib.hid R2
        have HK2 := Lib.hid K2
        have HBD := Lib.hid hbd
        have HSP2 := Lib.hid hsp2
        clear O2 R2 K2 hbd hsp2 hk2
        go_wp2_with (at_builtin; refine wpList_append_gen _ rfl (.tmp 30) (.tmp 32) 22 rfl (w.heap.size + 1) 5 i0 _ 1 1 Tryd.underlying22 hi0 hz0 hz1 hz2 rfl (by omega) _ n (bytesV data) rfl (HO2.out.alloc _) Ad nd.length cd (bytesV nd) rfl (by rw [bytesV_length]; omega) (HBD.out.alloc _).news (bytesV_one nd) (by unfold maxLen; omega) (by omega) (by simp; omega) ?_)
        intro A2 c2 w3 hap
        have hneX : ∀ j, w2.heap.size ≤ j → some j ≠ (Value.slice A' n c').ownBlock := fun j hj e => by have := (own_block_lt HO2.out e.symm).2; omega
        have hneB : ∀ j, j < w.heap.size + 1 → some j ≠ (Value.slice A' n c').ownBlock := fun j hj e => by have := (own_block_lt HO2.out e.symm).1; omega
        have bX : Blk w3 w2.heap.size 39 #[.slice Ad nd.length cd, .int .i64 ne] := (Blk.new w2 _ _).grown hap.grown (hneX _ (Nat.le_refl _))
        have x1 := bX.cell 1
        simp at x1
        have HR3 : Hid (Blk w3 w.heap.size 39 #[.slice none 0 0, .int .i64 0]) := Lib.hid ((HR2.out.alloc _).grown hap.grown (hneB _ (by omega)))
        have HO3 := Lib.hid hap.own
        have HK3 : Hid (Kept (· = sb) w w3) := Lib.hid ((HK2.out.alloc _).grown hap.grown fun j e hj => absurd e.symm (hneB j (by omega)))
        have HSP3 : Hid (SpAt S w3 sb ns L) := Lib.hid ((HSP2.out.kept ((Kept.refl (fun _ => False) _).alloc (.cells #[.slice Ad nd.length cd, .int .i64 ne] 39)) fun _ _ _ hf => hf).kept hap.kept fun j hj hS hD => by
          have h1 := (own_block_lt HO2.out hD.symm).1
          rcases hS with h | h
          · have := HSS.out j h; omega
          · omega)
        clear hap bX hneX hneB
        go_wp2_with fail
        go_roundg f'
        case measure => omega
        case rel =>
          refine ⟨n + nd.length, A2, c2, ne, rfl, rfl, data ++ nd, ns, by rw [List.length_append, HDN.out], by omega, ?_, HR'.out, HF'.out.symm.trans HFI.out, HSP3.out, HK3.out, HR3.out, HE'.out, HV'.out⟩
          rw [bytesV_append]
          exact HO3.out
      · have hfin := (fill_stop (L := L) (size := size) (f := gk) (st := rem') (fun hh => hx0 hh.2)).symm.trans HFI.out
        have hat := atLeast_of hle hfin.symm
        rw [if_neg (by rw [HDN.out]; omega : ¬ least ≤ data.length), HDN.out] at hat
        have p4 := HRB.out.cell 0
        have p5 := HRB.out.cell 1
        have p6 := HRB.out.frozen 0
        have p7 := HRB.out.frozen 1
        simp at p4 p5
        have hx' : x = 1 ∨ x = 2 := by have := HX.out; omega
        clear hfin hx0
        rcases hx' with rfl | rfl
        · by_cases h0 : 0 < n
          · rw [if_pos ⟨h0, rfl⟩] at hat
            have HA := Lib.hid hat
            clear hat
            go_wp2_with fail
            refine bodyPost_ret (v := .agg #[.slice A' n c', .int .i64 4]) ?_ rfl ?_
            · simp [results, Tryd.results35, go_sem, p4, p5]
            · rw [HA.out]
              exact at_done HDN.out HOW.out HSP.out HKE.out HSS.out hsb
          · have h00 : ¬ (0 : Int) < (n : Int) := by omega
            rw [if_neg (fun hh => h0 hh.1)] at hat
            have HA := Lib.hid hat
            clear hat
            go_wp2_with fail
            refine bodyPost_ret (v := .agg #[.slice A' n c', .int .i64 1]) ?_ rfl ?_
            · simp [results, Tryd.results35, go_sem, p4, p5]
            · rw [HA.out]
              exact at_done HDN.out HOW.out HSP.out HKE.out HSS.out hsb
        · rw [if_neg (fun hh => by omega)] at hat
          have HA := Lib.hid hat
          clear hat
          go_wp2_with fail
          refine bodyPost_ret (v := .agg #[.slice A' n c', .int .i64 2]) ?_ rfl ?_
          · simp [results, Tryd.results35, go_sem, p4, p5]
          · rw [HA.out]
            exact at_done HDN.out HOW.out HSP.out HKE.out HSS.out hsb
    · have hfin := (fill_stop (L := L) (size := size) (f := gk) (st := rem') (err := x) (fun hh => hlt (by have := hh.1; rw [HDN.out] at this; exact this))).symm.trans HFI.out
      have hat := atLeast_of hle hfin.symm
      rw [if_pos (by rw [HDN.out]; omega : least ≤ data.length)] at hat
      have p4 := HRB.out.cell 0
      have p5 := HRB.out.cell 1
      have p6 := HRB.out.frozen 0
      have p7 := HRB.out.frozen 1
      simp at p4 p5
      have HA := Lib.hid hat
      clear hat hfin
      go_wp2_with fail
      refine bodyPost_ret (v := .agg #[.slice A' n c', .int .i64 0]) ?_ rfl ?_
      · simp [results, Tryd.results35, go_sem, p4, p5]
      · rw [HA.out]
        exact at_done HDN.out HOW.out HSP.out HKE.out HSS.out hsb

end Go.Proofs.YteljcdlnfjeaaaaDoor
