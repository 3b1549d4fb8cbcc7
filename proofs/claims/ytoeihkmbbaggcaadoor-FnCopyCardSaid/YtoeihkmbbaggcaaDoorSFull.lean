/- The reference's atLeast and ReadFull. -/
import Derived.Test.YtoeihkmbbaggcaaDoorSRead
import Derived.Test.YtoeihkmbbaggcaaDoorFull
import Derived.Deep.RegionHeld3
set_option linter.unusedVariables false
set_option linter.unusedSimpArgs false
namespace Go.Proofs.YtoeihkmbbaggcaaDoor
open Go.RowKit

/-- the state of the reference's source: what is left of it, and how it ends -/
def SpAt (S : Nat → Prop) (w : World) (sb : Nat) (rem : List (List Int × Int)) (L : Int) : Prop :=
  ∃ A c st step given, StAt S w sb A c st step given ∧ remOf st step given = rem ∧ lastErr st = L

theorem SpAt.kept {D S : Nat → Prop} {w w' : World} {sb : Nat} {rem : List (List Int × Int)} {L : Int} (h : SpAt S w sb rem L) (hk : Kept D w w') (hd : ∀ k, k < w.heap.size → (S k ∨ k = sb) → ¬ D k) : SpAt S w' sb rem L := by
  obtain ⟨A, c, st, step, given, h1, h2, h3⟩ := h
  exact ⟨A, c, st, step, given, h1.kept hk hd, h2, h3⟩
theorem SpAt.lt {S : Nat → Prop} {w : World} {sb : Nat} {rem : List (List Int × Int)} {L : Int} (h : SpAt S w sb rem L) : sb < w.heap.size := by
  obtain ⟨A, c, st, step, given, h1, h2, h3⟩ := h
  exact h1.blk.lt
theorem SpAt.apart {S : Nat → Prop} {w : World} {sb : Nat} {rem : List (List Int × Int)} {L : Int} (h : SpAt S w sb rem L) : ∀ k, S k → k ≠ sb := by
  obtain ⟨A, c, st, step, given, h1, h2, h3⟩ := h
  exact h1.apart
theorem SpAt.blk {S : Nat → Prop} {w : World} {sb : Nat} {rem : List (List Int × Int)} {L : Int} (h : SpAt S w sb rem L) : ∃ cs, Blk w sb 70 cs := by
  obtain ⟨A, c, st, step, given, h1, h2, h3⟩ := h
  exact ⟨_, h1.blk⟩

/-- an answer by value, its bytes in new memory; the state goes on to rem' -/
def GotPost (S : Nat → Prop) (sb : Nat) (data : List Int) (x : Int) (rem' : List (List Int × Int)) (L : Int) (w : World) (e : Ending) (w' : World) : Prop :=
  ∃ A' c', e = .returned (.agg #[.slice A' data.length c', .int .i64 x]) ∧ data.length ≤ c' ∧ BytesAt (fun j => w.heap.size ≤ j) w' A' data ∧ SpAt S w' sb rem' L ∧ Kept (· = sb) w w'

theorem sp_read {S : Nat → Prop} {w : World} {sb : Nat} {rem : List (List Int × Int)} {L : Int} (m : Nat) (h : SpAt S w sb rem L) :
    Calls Tryd.prog 35 #[.pointer (some ⟨sb, 0, none⟩), .int .i64 m] w (GotPost S sb (rd L rem m).1.1 (rd L rem m).1.2 (rd L rem m).2 L w) := by
  obtain ⟨A, c, st, step, given, h1, h2, h3⟩ := h
  refine (sread_any m h1).mono ?_
  rintro e w' ⟨A', c', step', given', he, hc, hb, hst, hr, hk⟩
  rw [h2, h3] at he hc hb hr
  exact ⟨A', c', he, hc, hb, ⟨A, c, st, step', given', hst, hr, h3⟩, hk⟩

theorem own_kept {D : Nat → Prop} {w w' : World} {base : Nat} {e : TypeId} {size : Nat} {v : Value} {n : Nat} {xs : List Value} (h : w.ownsRow base e size v n xs) (hk : Kept D w w') (hd : ∀ g, base ≤ g → g < w.heap.size → ¬ D g) : w'.ownsRow base e size v n xs := by
  refine ⟨h.1, ?_⟩
  rcases h.2 with h2 | ⟨g, cap, cur, hv, hg, hh, r⟩
  · exact Or.inl h2
  · have hlt := (Array.getElem?_eq_some_iff.1 hh).1
    exact Or.inr ⟨g, cap, cur, hv, hg, by rw [hk.block g hlt (hd g hg hlt)]; exact hh, r⟩

/-- what holds at the head of a round of atLeast -/
def AtInv (S : Nat → Prop) (sb : Nat) (size least : Nat) (rem : List (List Int × Int)) (L : Int) (w : World) (f : Nat) (A' : Option Addr) (n c' : Nat) (x : Int) (wr : World) : Prop :=
  ∃ data rem', data.length = n ∧ n ≤ size ∧ wr.ownsRow (w.heap.size + 1) 5 1 (.slice A' n c') n (bytesV data) ∧ Room size least f rem' data x ∧ fill L size least f rem' data x = fill L size least (rem.length + 1) rem [] 0 ∧
    SpAt S wr sb rem' L ∧ Kept (· = sb) w wr ∧ Blk wr w.heap.size 45 #[.slice none 0 0, .int .i64 0] ∧ (x = 0 ∨ x = 1 ∨ x = 2) ∧ Valid L rem'

/-- the answer of atLeast, stored into the result's cells -/
theorem at_done {S : Nat → Prop} {sb : Nat} {rem' : List (List Int × Int)} {L : Int} {w wr : World} {A' : Option Addr} {n c' : Nat} {data : List Int} {x : Int} (hn : data.length = n) (hown : wr.ownsRow (w.heap.size + 1) 5 1 (.slice A' n c') n (bytesV data)) (hsp : SpAt S wr sb rem' L) (hk : Kept (· = sb) w wr) (hS : ∀ j, S j → j < w.heap.size) (hsbl : sb < w.heap.size) :
    GotPost S sb data x rem' L w (.returned (.agg #[.slice A' n c', .int .i64 x])) ((wr.setCell ⟨w.heap.size, 0, none⟩ (.slice A' n c')).setCell ⟨w.heap.size, 1, none⟩ (.int .i64 x)) := by
  subst hn
  have hgeq : ∀ k, (Value.slice A' data.length c').ownBlock = some k → w.heap.size + 1 ≤ k := fun k e => (own_block_lt hown e).1
  have hsb : sb ≠ w.heap.size → Kept (fun j => j = w.heap.size) wr ((wr.setCell ⟨w.heap.size, 0, none⟩ (.slice A' data.length c')).setCell ⟨w.heap.size, 1, none⟩ (.int .i64 x)) := fun _ =>
    ((Kept.refl (fun j => j = w.heap.size) wr).setCell (p := ⟨w.heap.size, 0, none⟩) (fun _ => rfl) _).setCell (p := ⟨w.heap.size, 1, none⟩) (fun _ => rfl) _
  by_cases hsbw : sb = w.heap.size
  · omega
  · refine ⟨A', c', rfl, own_cap hown, ?_, hsp.kept (hsb hsbw) (fun k _ hS' e => ?_), (hk.setCell (p := ⟨w.heap.size, 0, none⟩) (fun hh => absurd hh (by simp)) _).setCell (p := ⟨w.heap.size, 1, none⟩) (fun hh => absurd hh (by simp)) _⟩
    · exact ((((own_bytes hown).mono (S' := fun k => w.heap.size + 1 ≤ k) fun k _ hk => hgeq k hk).setCell (p := ⟨w.heap.size, 0, none⟩) (by simp) _).setCell (p := ⟨w.heap.size, 1, none⟩) (by simp) _).mono fun k _ hk => Nat.le_of_succ_le hk
    · rcases hS' with h | h
      · have := hS k h; omega
      · omega

set_option maxHeartbeats 1000000 in
set_option maxRecDepth 100000 in
theorem sAtLeast_any {S : Nat → Prop} {w : World} {sb : Nat} {rem : List (List Int × Int)} {L : Int} {size least : Nat} (h : SpAt S w sb rem L) (hS : ∀ j, S j → j < w.heap.size) (hv : Valid L rem) (hle : least ≤ size) (hsz : size ≤ 70368744177664) :
    Calls Tryd.prog 29 #[.pointer (some ⟨sb, 0, none⟩), .int .i64 size, .int .i64 least] w
      (GotPost S sb (atLeast L size least rem).1.1 (atLeast L size least rem).1.2 (atLeast L size least rem).2 L w) := by
  obtain ⟨i0, hi0, hz0, hz1, hz2⟩ := info_parts infoU8
  have H := Lib.hid h
  have HV := Lib.hid hv
  have HSS := Lib.hid hS
  have hdec : decide (size < least) = false := by simp; omega
  have hsb := h.lt
  clear h hv hS
  go_enter Tryd.func29, Tryd.ntmps29
  go_wp2_with fail
  clear hdec
  go_loopg [7, 8] (rem.length + 1) (fun f v y wr => ∃ (n : Nat) (A' : Option Addr) (c' : Nat) (x : Int), v = .slice A' n c' ∧ y = .int .i64 x ∧ AtInv S sb size least rem L w f A' n c' x wr)
  case atStart =>
    refine ⟨0, _, 0, 0, rfl, rfl, [], rem, rfl, Nat.zero_le _, ?_, fun _ => Nat.le_refl _, rfl, ?_, ?_, ?_, .inl rfl, HV.out⟩
    · have := own_empty (w.alloc (.cells #[.slice none 0 0, .int .i64 0] 45)) (w.heap.size + 1) 5 1 (by simp)
      simpa [bytesV] using this
    · exact H.out.kept (((Kept.refl (fun _ => False) _).alloc _).alloc _) fun _ _ _ hf => hf
    · exact ((Kept.refl _ _).alloc _).alloc _
    · exact (Blk.new w _ _).alloc _
  case round =>
    obtain ⟨n, A', c', x, rfl, rfl, data, rem', hdn, hns, hown, hroom, hfill, hsp, hkept, hR, hx, hval⟩ := hrel
    have HDN := Lib.hid hdn
    have HOW := Lib.hid hown
    have HRO := Lib.hid hroom
    have HFI := Lib.hid hfill
    have HSP := Lib.hid hsp
    have HKE := Lib.hid hkept
    have HRB := Lib.hid hR
    have HX := Lib.hid hx
    have HVA := Lib.hid hval
    clear hdn hown hroom hfill hsp hkept hR hx hval
    by_cases hlt : n < least
    · by_cases hx0 : x = 0
      · subst hx0
        obtain ⟨f', rfl, hfill', hroom'⟩ := fill_go HVA.out.ends hle (by rw [HDN.out]; exact hlt) rfl HRO.out
        rw [HDN.out] at hfill' hroom'
        have hlen' := rd_len L rem' (size - n)
        have herr' := HVA.out.err (size - n)
        have hval' := HVA.out.rd (size - n)
        have C := sp_read (size - n) HSP.out
        generalize rd L rem' (size - n) = R at *
        obtain ⟨⟨nd, ne⟩, ns⟩ := R
        simp only at hlen'
        have e1 : ((size - n : Nat) : Int) = (size : Int) - (n : Int) := by omega
        rw [e1] at C
        have C' := Lib.hid C
        have HF' := Lib.hid hfill'
        have HR' := Lib.hid hroom'
        have HE' := Lib.hid herr'
        have HV' := Lib.hid hval'
        clear C hfill' hroom' herr' hval' e1
        go_wp2_with fail
        refine C'.out.mono ?_
        rintro e w2 ⟨Ad, cd, rfl, hcd, hbd, hsp2, hk2⟩
        have hszr := HKE.out.size
        have hsz2 := hk2.size
        have O2 := own_kept HOW.out hk2 (fun g hg _ e => by omega)
        have R2 := HRB.out.kept hk2 (fun e => by omega)
        have K2 : Kept (· = sb) w w2 := HKE.out.trans hk2 fun _ _ e => e
        have hRlt := HRB.out.lt
        have HO2 := Lib.hid O2
        have HR2 := Lib.hid R2
        have HK2 := Lib.hid K2
        have HBD := Lib.hid hbd
        have HSP2 := Lib.hid hsp2
        clear O2 R2 K2 hbd hsp2 hk2
        go_wp2_with (at_builtin; refine wpList_append_gen _ rfl (.tmp 30) (.tmp 32) 22 rfl (w.heap.size + 1) 5 i0 _ 1 1 Tryd.underlying22 hi0 hz0 hz1 hz2 rfl (by omega) _ n (bytesV data) rfl (HO2.out.alloc _) Ad nd.length cd (bytesV nd) rfl (by rw [bytesV_length]; omega) (HBD.out.alloc _).news (bytesV_one nd) (by unfold maxLen; omega) (by omega) (by simp; omega) ?_)
        intro A2 c2 w3 hap
        have hneX : ∀ j, w2.heap.size ≤ j → some j ≠ (Value.slice A' n c').ownBlock := fun j hj e => by have := (own_block_lt HO2.out e.symm).2; omega
        have hneB : ∀ j, j < w.heap.size + 1 → some j ≠ (Value.slice A' n c').ownBlock := fun j hj e => by have := (own_block_lt HO2.out e.symm).1; omega
        have bX : Blk w3 w2.heap.size 45 #[.slice Ad nd.length cd, .int .i64 ne] := (Blk.new w2 _ _).grown hap.grown (hneX _ (Nat.le_refl _))
        have x1 := bX.cell 1
        simp at x1
        have HR3 : Hid (Blk w3 w.heap.size 45 #[.slice none 0 0, .int .i64 0]) := Lib.hid ((HR2.out.alloc _).grown hap.grown (hneB _ (by omega)))
        have HO3 := Lib.hid hap.own
        have HK3 : Hid (Kept (· = sb) w w3) := Lib.hid ((HK2.out.alloc _).grown hap.grown fun j e hj => absurd e.symm (hneB j (by omega)))
        have HSP3 : Hid (SpAt S w3 sb ns L) := Lib.hid ((HSP2.out.kept ((Kept.refl (fun _ => False) _).alloc (.cells #[.slice Ad nd.length cd, .int .i64 ne] 45)) fun _ _ _ hf => hf).kept hap.kept fun j hj hS hD => by
          have h1 := (own_block_lt HO2.out hD.symm).1
          rcases hS with h | h
          · have := HSS.out j h; omega
          · omega)
        clear hap bX hneX hneB
        go_wp2_with fail
        go_roundg f'
        case measure => omega
        case rel =>
          refine ⟨n + nd.length, A2, c2, ne, rfl, rfl, data ++ nd, ns, by rw [List.length_append, HDN.out], by omega, ?_, HR'.out, HF'.out.symm.trans HFI.out, HSP3.out, HK3.out, HR3.out, HE'.out, HV'.out⟩
          rw [bytesV_append]
          exact HO3.out
      · have hfin := (fill_stop (L := L) (size := size) (f := gk) (st := rem') (fun hh => hx0 hh.2)).symm.trans HFI.out
        have hat := atLeast_of hle hfin.symm
        rw [if_neg (by rw [HDN.out]; omega : ¬ least ≤ data.length), HDN.out] at hat
        have p4 := HRB.out.cell 0
        have p5 := HRB.out.cell 1
        have p6 := HRB.out.frozen 0
        have p7 := HRB.out.frozen 1
        simp at p4 p5
        have hx' : x = 1 ∨ x = 2 := by have := HX.out; omega
        clear hfin hx0
        rcases hx' with rfl | rfl
        · by_cases h0 : 0 < n
          · rw [if_pos ⟨h0, rfl⟩] at hat
            have HA := Lib.hid hat
            clear hat
            go_wp2_with fail
            refine bodyPost_ret (v := .agg #[.slice A' n c', .int .i64 4]) ?_ rfl ?_
            · simp [results, Tryd.results29, go_sem, p4, p5]
            · rw [HA.out]
              exact at_done HDN.out HOW.out HSP.out HKE.out HSS.out hsb
          · have h00 : ¬ (0 : Int) < (n : Int) := by omega
            rw [if_neg (fun hh => h0 hh.1)] at hat
            have HA := Lib.hid hat
            clear hat
            go_wp2_with fail
            refine bodyPost_ret (v := .agg #[.slice A' n c', .int .i64 1]) ?_ rfl ?_
            · simp [results, Tryd.results29, go_sem, p4, p5]
            · rw [HA.out]
              exact at_done HDN.out HOW.out HSP.out HKE.out HSS.out hsb
        · rw [if_neg (fun hh => by omega)] at hat
          have HA := Lib.hid hat
          clear hat
          go_wp2_with fail
          refine bodyPost_ret (v := .agg #[.slice A' n c', .int .i64 2]) ?_ rfl ?_
          · simp [results, Tryd.results29, go_sem, p4, p5]
          · rw [HA.out]
            exact at_done HDN.out HOW.out HSP.out HKE.out HSS.out hsb
    · have hfin := (fill_stop (L := L) (size := size) (f := gk) (st := rem') (err := x) (fun hh => hlt (by have := hh.1; rw [HDN.out] at this; exact this))).symm.trans HFI.out
      have hat := atLeast_of hle hfin.symm
      rw [if_pos (by rw [HDN.out]; omega : least ≤ data.length)] at hat
      have p4 := HRB.out.cell 0
      have p5 := HRB.out.cell 1
      have p6 := HRB.out.frozen 0
      have p7 := HRB.out.frozen 1
      simp at p4 p5
      have HA := Lib.hid hat
      clear hat hfin
      go_wp2_with fail
      refine bodyPost_ret (v := .agg #[.slice A' n c', .int .i64 0]) ?_ rfl ?_
      · simp [results, Tryd.results29, go_sem, p4, p5]
      · rw [HA.out]
        exact at_done HDN.out HOW.out HSP.out HKE.out HSS.out hsb

theorem sp_new {S : Nat → Prop} {w : World} {A : Option Addr} {c : Nat} {st : List (List Int × Int)} (h : RecsAt S w A st) (hS : ∀ j, S j → j < w.heap.size) (hn : st.length ≤ 281474976710656) (hd : ∀ i, i < st.length → (dat st i).length ≤ 140737488355328) :
    SpAt S (w.alloc (.cells #[.slice A st.length c, .int .i64 0, .int .i64 0] 70)) w.heap.size st (lastErr st) := by
  refine ⟨A, c, st, 0, 0, ⟨?_, h.alloc _, Nat.zero_le _, fun _ => Nat.zero_le _, fun _ => rfl, hn, hd, fun k hk e => by have := hS k hk; omega⟩, remOf_zero, rfl⟩
  exact Blk.new w _ _

/-- what holds at the head of a round of the reference's ReadFull -/
def SFullInv (sb base : Nat) (S : Nat → Prop) (L : Int) (zs : List Int) (st : List (List Int × Int)) (w : World) (k : Nat) (A' : Option Addr) (c' : Nat) (wr : World) : Prop :=
  ∃ done xs stk, OutAt base wr A' k c' done xs ∧ SpAt S wr sb stk L ∧ Valid L stk ∧ readFulls L zs st = done ++ readFulls L (zs.drop k) stk ∧ Below w.heap.size w wr ∧ base ≤ wr.heap.size

set_option maxHeartbeats 1000000 in
set_option maxRecDepth 100000 in
theorem specReadFull_any {S S1 : Nat → Prop} {w : World} {A A1 : Option Addr} {st : List (List Int × Int)} {zs : List Int} (c c1 : Nat) (h : RecsAt S w A st)
    (hn : st.length ≤ 281474976710656) (hd : ∀ i, i < st.length → (dat st i).length ≤ 140737488355328) (hv : Valid (lastErr st) st) (hz : IntsAt S1 w A1 zs) (hzs : SizesOK zs) (hzn : zs.length * 32 ≤ 140737488355328) :
    Calls Tryd.prog 17 #[.agg #[.slice A st.length c], .slice A1 zs.length c1] w (GotsPost (readFulls (lastErr st) zs st) w) := by
  obtain ⟨i1, hi1, hy0, hy1, hy2⟩ := info_parts infoGot
  have hR := h.mono (S' := (· < w.heap.size)) fun k hk _ => hk
  have HN := fun o : Obj => Lib.hid (sp_new (c := c) (hR.alloc o) (fun j hj => by simp; omega) hn hd)
  have HZ := Lib.hid (hz.mono (S' := (· < w.heap.size)) fun k hk _ => hk)
  have HZS := Lib.hid hzs
  have HV := Lib.hid hv
  clear h hR hd hv hz hzs
  generalize lastErr st = L at *
  generalize hlen : zs.length = len at *
  have HL := Lib.hid hlen
  clear hlen
  go_enter Tryd.func17, Tryd.ntmps17
  go_wp2_with fail
  go_loopg [6, 7] len (fun f v i wr => ∃ (k : Nat) (A' : Option Addr) (c' : Nat), k ≤ len ∧ f = len - k ∧ i = .int .i64 k ∧ v = .slice A' k c' ∧ SFullInv (w.heap.size + 1) (w.heap.size + 2) (· < w.heap.size) L zs st w k A' c' wr)
  case atStart =>
    refine ⟨0, _, 0, Nat.zero_le _, by omega, rfl, rfl, [], [], st, ?_, ?_, HV.out, by simp, ?_, by simp⟩
    · have := OutAt.empty ((w.alloc (.cells #[.slice A st.length c] 25)).alloc (.cells #[.slice A st.length c, .int .i64 0, .int .i64 0] 70)) (w.heap.size + 2) (by simp)
      simpa using this
    · have := (HN (.cells #[.slice A st.length c] 25)).out
      simp at this
      exact this.kept ((Kept.refl (fun _ => False) _).alloc _) fun _ _ _ hf => hf
    · exact (((Below.refl _ _).alloc (Nat.le_refl _) _).alloc (by simp) _).alloc (by simp; omega) _
  case round =>
    obtain ⟨k, A', c', hk, rfl, rfl, rfl, done, xs, stk, hout, hsp, hval, hfut, hbel, hbs⟩ := hrel
    have HO := Lib.hid hout
    have HS := Lib.hid hsp
    have HVA := Lib.hid hval
    have HF := Lib.hid hfut
    have HBr := Lib.hid hbel
    clear hout hsp hval hfut hbel
    by_cases hlt : k < len
    · obtain ⟨ab, aoff, rfl, habw, hab, hcs⟩ := HZ.out.below HBr.out (by rw [HL.out]; omega)
      have g2 := hcs k (by rw [HL.out]; omega)
      have hzk := HZS.out.1 k (by rw [HL.out]; omega)
      rw [nth_def] at hzk
      have hdrop : zs.drop k = nth zs k :: zs.drop (k + 1) := by
        rw [List.drop_eq_getElem_cons (by rw [HL.out]; exact hlt), nth_get (by rw [HL.out]; exact hlt)]
      have HDR := Lib.hid hdrop
      clear hcs hdrop
      generalize hzz : nth zs k = z at *
      obtain ⟨zn, rfl⟩ : ∃ zn : Nat, z = (zn : Int) := ⟨z.toNat, by omega⟩
      clear hzz
      have hz1 : zn ≤ 1048576 := by omega
      have C := sAtLeast_any (HS.out.kept ((Kept.refl (fun _ => False) _).drew) fun _ _ _ hf => hf) (fun j hj => by show j < wr.heap.size; omega) HVA.out (Nat.le_refl zn) (by omega)
      have hal := atLeast_len L zn zn stk
      have hval' := atLeast_valid zn zn HVA.out
      have hnext : readFulls L (zs.drop k) stk = (atLeast L zn zn stk).1 :: readFulls L (zs.drop (k + 1)) (atLeast L zn zn stk).2 := by rw [HDR.out, readFulls, Int.toNat_natCast]
      generalize atLeast L zn zn stk = R at *
      obtain ⟨⟨nd, ne⟩, ns⟩ := R
      simp only at hal
      have C' := Lib.hid C
      have HNX := Lib.hid hnext
      have HV' := Lib.hid hval'
      have hki : (0 : Int) ≤ (k : Int) := by omega
      have hki2 : (k : Int) < (len : Int) := by omega
      have hOk : ∀ {w2 : World}, Kept (· = w.heap.size + 1) wr.drew w2 → OutAt (w.heap.size + 2) w2 A' k c' done xs := fun hk2 => (HO.out.kept ((Kept.refl (fun _ => False) _).drew) fun _ _ _ hf => hf).kept hk2 fun j hj _ e => by omega
      have HOK : Hid (∀ {w2 : World}, Kept (· = w.heap.size + 1) wr.drew w2 → OutAt (w.heap.size + 2) w2 A' k c' done xs) := Lib.hid hOk
      clear C hnext hval' hOk
      go_wp2_with fail
      go_region_held3 (fun w' => w'.cell? ⟨ab, aoff + k, none⟩ = some (.int .i64 zn))
        (first
          | go_keep
          | exact v1
          | exact v2)
        (first
          | (refine step_append_gen _ (by rfl) (.tmp 18) (.tmp 29) 39 (by rfl) (w.heap.size + 2) 45 i1 _ 2 32 Tryd.underlying39 hi1 hy0 hy1 hy2 rfl (by omega) _ k xs (by rfl) (HO2.out.own.alloc _) (some ⟨w2.heap.size, 0, none⟩) 1 1 [.slice Ad nd.length cd, .int .i64 ne] (by rfl) (by rfl) ((Blk.new w2 45 #[.slice Ad nd.length cd, .int .i64 ne]).news 1) (by simp [Value.oneCell']) (by unfold maxLen; omega) (by omega) (by simp; omega) ?_; intro A2 c2 w3 hap; have v2 := (hap.cell (a := ⟨ab, aoff + k, none⟩) (by simp; omega) (fun e => by have := (own_block_lt HO2.out.own e.symm).1; simp at this; omega)).trans ((World.cell?_alloc_lt w2 _ _ (by simp; omega)).trans v1))
          | (go_at_call 29; refine C'.out.mono ?_; rintro e w2 ⟨Ad, cd, rfl, hcd, hbd, hsp2, hk2⟩; have HO2 := Lib.hid (HOK.out hk2); have v1 := (hk2.cell (p := ⟨ab, aoff + k, none⟩) hab (by simp; omega)).trans g2; have hsz2 := hk2.size; simp at hsz2))
      have hlo : ∀ j, (Value.slice A' k c').ownBlock = some j → w.heap.size + 2 ≤ j ∧ j < wr.heap.size := fun j e => own_block_lt HO.out.own e
      have hbd' : BytesAt (fun j => w.heap.size + 2 ≤ j ∧ some j ≠ (Value.slice A' k c').ownBlock) w2 Ad nd := hbd.mono fun j _ hj => by
        have hj' : wr.heap.size ≤ j := hj
        exact ⟨by omega, fun e => by have := (hlo j e.symm).2; omega⟩
      have HOn := Lib.hid (OutAt.snoc HO2.out hap hcd hbd')
      have HBn : Hid (Below w.heap.size w w3) := Lib.hid (((HBr.out.drew.trans (hk2.below (B := w.heap.size) (by show w.heap.size ≤ wr.heap.size; omega) (fun j hj e => by omega))).alloc (by omega) _).grown hap.grown (by simp; omega) fun j e => by have := (hlo j e).1; omega)
      have HSn : Hid (SpAt (· < w.heap.size) w3 (w.heap.size + 1) ns L) := Lib.hid ((hsp2.kept ((Kept.refl (fun _ => False) _).alloc (.cells #[.slice Ad nd.length cd, .int .i64 ne] 45)) fun _ _ _ hf => hf).kept hap.kept fun j _ hj hD => by
        have := (hlo j hD.symm).1
        rcases hj with h | h
        · omega
        · omega)
      have hszn := hap.sizeLe
      simp at hszn
      clear hap hbd hbd' hsp2 hk2 v1 v2 hlo g2
      go_wp2_with fail
      go_roundg (len - (k + 1))
      case measure => omega
      case rel =>
        refine ⟨k + 1, A2, c2, by omega, rfl, by go_num, rfl, done ++ [(nd, ne)], _, ns, HOn.out, HSn.out, HV'.out, ?_, HBn.out, by omega⟩
        rw [HF.out, HNX.out, List.append_assoc]
        rfl
    · have HK : Hid (k = len) := Lib.hid (by omega)
      go_wp2_with fail
      go_ret
      have h1 := HF.out
      rw [List.drop_of_length_le (by have := HL.out; have := HK.out; omega)] at h1
      rw [h1]
      simp only [readFulls, List.append_nil]
      exact HO.out.post (by omega) HBr.out

end Go.Proofs.YtoeihkmbbaggcaaDoor
