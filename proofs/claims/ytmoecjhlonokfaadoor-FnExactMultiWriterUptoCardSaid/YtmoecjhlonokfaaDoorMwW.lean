/- impl.MultiWriter, walked. -/
import Derived.Test.YtmoecjhlonokfaaDoorMwI
set_option linter.unusedVariables false
set_option linter.unusedSimpArgs false
namespace Go.Proofs.YtmoecjhlonokfaaDoor
open Go.RowKit

/-- what is told of each write, and what the sinks have, in new memory -/
def MwiPost (R : List (Nat × Int) × List (Nat × List Int)) (w : World) (e : Ending) (w' : World) : Prop :=
  ∃ A c A2 c2, e = .returned (.tuple #[.slice A R.1.length c, .slice A2 R.2.length c2]) ∧ R.1.length ≤ c ∧ R.2.length ≤ c2 ∧ ElsAt ElO 3 (fun j => w.heap.size ≤ j) w' A (R.1.map fun x => ([], (x.1 : Int), x.2)) ∧ ElsAt ElB 1 (fun j => w.heap.size ≤ j) w' A2 (R.2.map (·.2)) ∧ Below w.heap.size w w'

/-- what holds at the head of a round of the writes; X: blocks that stay as they were in w5 -/
structure M2 (w w5 : World) (X : Nat → Prop) (sb : Nat → Nat) (n : Nat) (ss : List (Nat × List Int)) (G : Nat → Nat → Prop) (k : Nat) (A' : Option Addr) (c' : Nat) (done : List (List Int × Int × Int)) (xs : List Value) (wr : World) : Prop where
  fx : ∀ j, X j → j < w5.heap.size ∧ wr.heap[j]? = w5.heap[j]?
  sz : w5.heap.size ≤ wr.heap.size
  len : ss.length = n
  sk : Sinks w.heap.size sb G ss wr
  gx : ∀ i, i < n → ∀ j, G i j → ¬ X j
  row : RowT ElO 3 38 w.heap.size (fun _ => False) wr A' k c' done xs
  rx : ∀ j, (Value.slice A' k c').ownBlock = some j → ¬ X j
  rg : ∀ j, (Value.slice A' k c').ownBlock = some j → ∀ i, i < n → ¬ G i j
  bl : Below w.heap.size w wr

theorem m2_next {w w5 wr w6 w7 w0 w8 : World} {X : Nat → Prop} {sb : Nat → Nat} {n : Nat} {ss ss' : List (Nat × List Int)} {G G' : Nat → Nat → Prop} {k c' c2 : Nat} {A' A2 : Option Addr} {done : List (List Int × Int × Int)} {xs : List Value} {x : List Int × Int × Int} {vs : List Value} (h : M2 w w5 X sb n ss G k A' c' done xs wr)
    (hk6 : Kept (fun _ => False) wr w6) (hsk : Sinks w.heap.size sb G' ss' w7) (hl : ss'.length = n) (hG : ∀ i, i < n → ∀ j, G' i j → G i j ∨ w6.heap.size ≤ j) (hk7 : Kept (fun j => ∃ i, i < n ∧ G i j) w6 w7) (hw0 : Kept (fun _ => False) w7 w0)
    (hap : Appended w.heap.size 38 3 A2 (k + 1) c2 (xs ++ vs) (Value.slice A' k c').ownBlock w0 w8) (hv : vs.length = 3) (hd : ElO (fun _ => False) w7 vs x) : M2 w w5 X sb n ss' G' (k + 1) A2 c2 (done ++ [x]) (xs ++ vs) w8 := by
  have z6 := hk6.size
  have z7 := hk7.size
  have z0 := hw0.size
  have z8 := hap.sizeLe
  have hbz := h.bl.size
  have hsz := h.sz
  have hlo : ∀ j, (Value.slice A' k c').ownBlock = some j → w.heap.size ≤ j ∧ j < wr.heap.size := fun j e => own_block_lt h.row.own e
  have hA2 : ∀ j, (Value.slice A2 (k + 1) c2).ownBlock = some j → (Value.slice A' k c').ownBlock = some j ∨ w0.heap.size ≤ j := fun j e => by
    rcases hap.2.2 with h' | h'
    · exact .inl (by rw [← h', e])
    · rw [e] at h'; injection h' with h'; exact .inr (by omega)
  have K7 : Kept (fun j => ∃ i, i < n ∧ G i j) wr w7 := (hk6.mono fun _ _ hf => hf.elim).trans hk7 fun _ _ h' => h'
  have row7 := h.row.kept mvO K7 (fun j e ⟨i, hi, hG'⟩ => h.rg j e i hi hG') (fun _ hf => hf.elim)
  have K8 : Kept (fun j => some j = (Value.slice A' k c').ownBlock) w7 w8 := (hw0.mono fun _ _ hf => hf.elim).trans hap.kept fun _ _ h' => h'
  refine ⟨fun j hX => ?_, by omega, hl, ?_, fun i hi j hj hX => ?_, RowT.snoc mvO row7 hw0 hap (fun _ hf => hf.elim) hv hd, fun j e hX => ?_, fun j e i hi hj => ?_, ?_⟩
  · obtain ⟨h1, h2⟩ := h.fx j hX
    refine ⟨h1, ?_⟩
    rw [K8.block j (by omega) (fun e => h.rx j e.symm hX), K7.block j (by omega) (fun ⟨i, hi, hG'⟩ => h.gx i hi j hG' hX), h2]
  · refine hsk.kept K8 fun j ⟨i, hi, hG'⟩ e => ?_
    rcases hG i (by omega) j hG' with h' | h'
    · exact h.rg j e.symm i (by omega) h'
    · have := (hlo j e.symm).2; omega
  · rcases hG i hi j hj with h' | h'
    · exact h.gx i hi j h' hX
    · have := (h.fx j hX).1; omega
  · rcases hA2 j e with h' | h'
    · exact h.rx j h' hX
    · have := (h.fx j hX).1; omega
  · rcases hA2 j e with h' | h'
    · rcases hG i hi j hj with h2 | h2
      · exact h.rg j h' i hi h2
      · have := (hlo j h').2; omega
    · have := hsk.flt (i := i) (by omega) hj; omega
  · refine (h.bl.trans (K7.below hbz fun j hj ⟨i, hi, hG'⟩ => ?_)).trans (K8.below (by omega) fun j hj e => ?_)
    · have := h.sk.lo i (by rw [h.len]; exact hi) j hG'; omega
    · have := (hlo j e.symm).1; omega

theorem Kept.mono' {D D' : Nat → Prop} {w w' : World} (h : Kept D w w') (hd : ∀ k, k < w.heap.size → D k → D' k) : Kept D' w w' := h.mono hd
theorem Errs.mono {B B' : Nat} {w : World} {E : Nat → Addr} (h : Errs B w E) (hB : B ≤ B') (_ : True ∨ True) : Errs B' w E :=
  ⟨h.cell, h.blk, fun k hk => Nat.lt_of_lt_of_le (h.glt k hk) hB, fun k hk => Nat.lt_of_lt_of_le (h.lt k hk) hB, h.inj⟩
theorem own_cells {w : World} {base : Nat} {e : TypeId} {A : Option Addr} {n c : Nat} {xs : List Value} (h : w.ownsRow base e 1 (.slice A n c) n xs) : ∃ ab, (0 < n → A = some ⟨ab, 0, none⟩ ∧ ab < w.heap.size ∧ (Value.slice A n c).ownBlock = some ab) ∧ ∀ i, i < n → w.cell? ⟨ab, i, none⟩ = xs[i]? := by
  by_cases hn : 0 < n
  · obtain ⟨g, h1, _, h3, h4, h5⟩ := own_cell h hn
    exact ⟨g, fun _ => ⟨h1, h3, h4⟩, h5⟩
  · exact ⟨0, fun hh => absurd hh hn, fun i hi => by omega⟩

theorem blk_new3 (w : World) (o o' : Obj) (t : TypeId) (cs : Array Value) : Blk (((w.alloc o).alloc o').alloc (.cells cs t)) (w.heap.size + 1 + 1) t cs := by
  have := Blk.new ((w.alloc o).alloc o') t cs
  simpa using this

set_option maxHeartbeats 4000000 in
set_option maxRecDepth 100000 in
theorem implMw_any {B : Nat} {S0 S1 : Nat → Prop} {w : World} {E : Nat → Addr} (hE : Errs B w E) (hBw : B ≤ w.heap.size) {A A1 : Option Addr} {lims : List Int} {ps : List (List Int)} (c c1 : Nat) (h : IntsAt S0 w A lims) (hl : ∀ i, i < lims.length → 0 ≤ nth lims i ∧ nth lims i ≤ 9223372036854775807) (hn : lims.length ≤ 1048576)
    (hp : ElsAt ElB 1 S1 w A1 ps) (hpn : ps.length ≤ 1048576) (hj : ps.flatten.length ≤ 70368744177664) :
    Calls Tryd.prog 13 #[.slice A lims.length c, .slice A1 ps.length c1] w (MwiPost (mwRuns ps (lims.map fun l => (l.toNat, []))) w) := by
  obtain ⟨ip, hip, hp0, hp1, hp2⟩ := info_parts infoPW
  obtain ⟨iw, hiw, hw0, hw1, hw2⟩ := info_parts infoWr
  obtain ⟨i1, hi1, hy0, hy1, hy2⟩ := info_parts infoOpG
  obtain ⟨i0, hi0, hz0, hz1, hz2⟩ := info_parts infoU8
  obtain ⟨ib, hib, hb0, hb1, hb2⟩ := info_parts infoBs
  have HE := Lib.hid hE
  have HZ := Lib.hid (h.mono (S' := (· < w.heap.size)) fun k hk _ => hk)
  have HP := Lib.hid (hp.mono mvB (S' := (· < w.heap.size)) fun k hk _ => hk)
  have HLM := Lib.hid hl
  have HJ := Lib.hid hj
  clear hE h hl hp hj
  generalize hlen : lims.length = n at *
  have HL := Lib.hid hlen
  generalize hpl : ps.length = np at *
  have HPL := Lib.hid hpl
  clear hlen hpl
  have HI0 : Hid (MI w (fun _ => 0) [] 0 (some ⟨w.heap.size, 0, none⟩) (some ⟨w.heap.size + 1, 0, none⟩) 0 0 ((w.alloc (.cells #[] 60)).alloc (.cells #[] 64))) := Lib.hid (by
    refine ⟨rfl, (own_empty w w.heap.size 60 1 (Nat.le_refl _)).alloc _, ?_, ⟨fun i hi => by simp at hi, fun i hi => by simp at hi, fun i j hi => by simp at hi⟩, fun j e e' => ?_, fun j e i hi => by omega, fun j e i hi => by omega, ((Below.refl _ _).alloc (Nat.le_refl _) _).alloc (by simp) _⟩
    · have := own_empty (w.alloc (.cells #[] 60)) w.heap.size 64 1 (by simp)
      simpa [mwV] using this
    · have h1 : w.heap.size = j := by injection e
      have h2 : w.heap.size + 1 = j := by injection e'
      omega)
  go_enter Tryd.func13, Tryd.ntmps13
  go_wp2_with fail
  go_loopg [6, 7, 24] n (fun f v6 v7 i wr => ∃ (k : Nat) (As Aw : Option Addr) (cs cw : Nat) (sb : Nat → Nat), k ≤ n ∧ f = n - k ∧ i = .int .i64 k ∧ v6 = .slice As k cs ∧ v7 = .slice Aw k cw ∧ Hid (MI w sb ((lims.take k).map Int.toNat) k As Aw cs cw wr))
  case atStart => exact ⟨0, _, _, 0, 0, fun _ => 0, Nat.zero_le _, by omega, rfl, rfl, rfl, by simpa using HI0⟩
  case round =>
    obtain ⟨k, As, Aw, cs, cw, sb, hk, rfl, rfl, rfl, rfl, HI⟩ := hrel
    have hszr := HI.out.bl.size
    by_cases hlt : k < n
    · obtain ⟨ab, aoff, rfl, _, hab, hcs⟩ := HZ.out.below HI.out.bl (by rw [HL.out]; omega)
      have g1 := hcs k (by rw [HL.out]; exact hlt)
      have hlm := HLM.out k hlt
      have htk : (lims.take (k + 1)).map Int.toNat = (lims.take k).map Int.toNat ++ [(nth lims k).toNat] := by
        rw [List.take_succ_eq_append_getElem (by rw [HL.out]; exact hlt), List.map_append, nth_get (by rw [HL.out]; exact hlt)]
        rfl
      generalize nth lims k = l at *
      obtain ⟨l, rfl⟩ : ∃ l' : Nat, l = (l' : Int) := ⟨l.toNat, by omega⟩
      rw [Int.toNat_natCast] at htk
      have HTK := Lib.hid htk
      clear hcs htk
      go_wp2_with (at_builtin; refine wpList_append_gen _ rfl (.tmp 32) (.tmp 34) 58 rfl w.heap.size 60 ip _ 1 8 Tryd.underlying58 hip hp0 hp1 hp2 rfl (by omega) _ k _ rfl (((HI.out.s.alloc _).alloc _).alloc _) (some ⟨wr.heap.size + 1 + 1, 0, none⟩) 1 1 [.pointer (some ⟨wr.heap.size + 1, 0, none⟩)] rfl (by rfl) ((blk_new3 wr _ _ 60 #[.pointer (some ⟨wr.heap.size + 1, 0, none⟩)]).news 1) (by simp [Value.oneCell']) (by unfold maxLen; omega) (by omega) (by simp; omega) ?_)
      intro As2 cs2 w2 hap1
      have hs2 := hap1.sizeLe
      simp at hs2
      have HV2 := Lib.hid (own_keptP ((HI.out.v.alloc _).alloc _) (((Kept.refl (fun j => some j = (Value.slice As k cs).ownBlock) _).alloc _).trans hap1.kept fun _ _ e => e) fun g hg e => HI.out.sv g e.symm hg)
      have HA1 := Lib.hid hap1
      clear hap1
      go_wp2_with (at_builtin; refine wpList_append_gen _ rfl (.tmp 36) (.tmp 39) 59 rfl w.heap.size 64 iw _ 1 16 Tryd.underlying59 hiw hw0 hw1 hw2 rfl (by omega) _ k _ rfl (HV2.out.alloc _) (some ⟨w2.heap.size, 0, none⟩) 1 1 [.iface 60 (.pointer (some ⟨wr.heap.size + 1, 0, none⟩))] rfl (by rfl) ((Blk.new w2 64 #[.iface 60 (.pointer (some ⟨wr.heap.size + 1, 0, none⟩))]).news 1) (by simp [Value.oneCell']) (by unfold maxLen; omega) (by omega) (by simp; omega) ?_)
      intro Aw2 cw2 w3 hap2
      have HN := Lib.hid (mi_next HI.out HA1.out hap2)
      rw [← HTK.out] at HN
      clear hap2 HA1
      go_wp2_with fail
      go_roundg (n - (k + 1))
      case measure => omega
      case rel => exact ⟨k + 1, As2, Aw2, cs2, cw2, _, by omega, rfl, by go_num, rfl, rfl, HN⟩
    · have hkn : k = n := by omega
      subst hkn
      have hlt0 : lims.take k = lims := List.take_of_length_le (by rw [HL.out]; omega)
      rw [hlt0] at HI
      obtain ⟨ab, hab1, hab2⟩ := own_cells HI.out.v
      have CM := Lib.hid (multiWriter_any cw (by omega) (fun hh => ⟨(hab1 hh).1, (hab1 hh).2.1⟩) fun i hi => (hab2 i hi).trans (mwV_get hi))
      have HRS : Hid (mwRuns ps (lims.map fun l => (l.toNat, [])) = ([] ++ (mwRuns (ps.drop 0) ((lims.map Int.toNat).map fun l => (l, []))).1, (mwRuns (ps.drop 0) ((lims.map Int.toNat).map fun l => (l, []))).2)) := Lib.hid (by rw [List.drop_zero, List.map_map]; rfl)
      have HB0 : Hid (∀ x ∈ (lims.map Int.toNat).map (fun l => (l, ([] : List Int))), x.2.length + (ps.drop 0).flatten.length ≤ 70368744177664 ∧ x.1 ≤ 9223372036854775807) := Lib.hid fun x hx => by
        obtain ⟨l, hl, rfl⟩ := List.mem_map.1 hx
        obtain ⟨z, hz, rfl⟩ := List.mem_map.1 hl
        obtain ⟨i, hi, rfl⟩ := List.getElem_of_mem hz
        have := HLM.out i (by rw [HL.out] at hi; exact hi)
        rw [nth_get hi] at this
        simp only [List.length_nil, List.drop_zero]
        have := HJ.out
        omega
      clear hab1 hab2 hlt0
      go_wp2_with fail
      refine CM.out.mono ?_
      rintro e w5 ⟨mb, Am, cm, rfl, hmb, hblk, hown, hb5⟩
      have hs5 := hb5.size
      have hkb : Kept (fun _ => False) wr w5 := ⟨hb5.os, hb5.tape, hb5.output, hb5.size, fun j hj _ => hb5.block j hj⟩
      have HS5 := Lib.hid (own_keptP HI.out.s hkb fun _ _ hf => hf)
      have HBK := Lib.hid hblk
      have HOM := Lib.hid hown
      obtain ⟨X, hXd⟩ : ∃ X : Nat → Prop, X = fun j => j = mb ∨ (Value.slice Am k cm).ownBlock = some j ∨ (Value.slice As k cs).ownBlock = some j := ⟨_, rfl⟩
      have hXlt : ∀ j, X j → j < w5.heap.size := fun j hX => by
        rw [hXd] at hX
        rcases hX with h | h | h
        · rw [h]; exact HBK.out.lt
        · exact (own_block_lt HOM.out h).2
        · exact (own_block_lt HS5.out h).2
      have HM0 : Hid (M2 w w5 X sb k ((lims.map Int.toNat).map fun l => (l, [])) (fun i j => j = sb i) 0 (some ⟨w5.heap.size, 0, none⟩) 0 (([] : List (Nat × Int)).map fun x => ([], (x.1 : Int), x.2)) [] (w5.alloc (.cells #[] 38))) := Lib.hid (by
        have hkl : ((lims.map Int.toNat).map fun l => (l, ([] : List Int))).length = k := by rw [List.length_map]; exact HI.out.len
        have hsbl : ∀ i, i < k → sb i < wr.heap.size := fun i hi => HI.out.sk.flt (by rw [hkl]; exact hi) rfl
        refine ⟨fun j hX => ⟨hXlt j hX, Below.heap_alloc _ _ _ (hXlt j hX)⟩, by simp, hkl, (HI.out.sk.kept hkb fun _ _ hf => hf).kept ((Kept.refl (fun _ => False) _).alloc _) (fun _ _ hf => hf), fun i hi j hj hX => ?_, RowT.empty ElO 3 _ _ w5 _ (by omega), fun j e hX => ?_, fun j e i hi hj => ?_, (HI.out.bl.trans (hb5.mono hszr)).alloc (by omega) _⟩
        · subst hj
          have hsl := hsbl i hi
          rw [hXd] at hX
          rcases hX with h | h | h
          · omega
          · have := (own_block_lt HOM.out h).1; omega
          · exact HI.out.ss _ h i hi rfl
        · have e' : w5.heap.size = j := by injection e
          have := hXlt j hX
          omega
        · have e' : w5.heap.size = j := by injection e
          have := hsbl i hi
          omega)
      have HXL := Lib.hid hXlt
      have HXD := Lib.hid hXd
      have hnilM := nilAhead_mw ⟨mb, 0, none⟩
      have hmetM := method_mw ⟨mb, 0, none⟩
      clear hblk hown hb5 CM hkb hXlt hXd
      go_wp2_with fail
      go_loopg [12, 47] np (fun f v i wy => ∃ (q : Nat) (A' : Option Addr) (c' : Nat) (xs : List Value) (G : Nat → Nat → Prop) (ss : List (Nat × List Int)) (done : List (Nat × Int)), q ≤ np ∧ f = np - q ∧ i = .int .i64 q ∧ v = .slice A' q c' ∧ Hid (M2 w w5 X sb k ss G q A' c' (done.map fun x => ([], (x.1 : Int), x.2)) xs wy) ∧
        Hid (mwRuns ps (lims.map fun l => (l.toNat, [])) = (done ++ (mwRuns (ps.drop q) ss).1, (mwRuns (ps.drop q) ss).2)) ∧ Hid (∀ x ∈ ss, x.2.length + (ps.drop q).flatten.length ≤ 70368744177664 ∧ x.1 ≤ 9223372036854775807))
      case atStart => exact ⟨0, _, 0, _, _, _, [], Nat.zero_le _, by omega, rfl, rfl, HM0, HRS, HB0⟩
      case round =>
        obtain ⟨q, A', c', xs, G, ss, done, hq, rfl, rfl, rfl, HM, HRU, HBD⟩ := hrel
        have hsy := HM.out.bl.size
        have hsy5 := HM.out.sz
        by_cases hltq : q < np
        · obtain ⟨pb, poff, rfl, _, hpbl, hpc⟩ := (HP.out.below mvB HM.out.bl).bytesAt (by rw [HPL.out]; omega)
          obtain ⟨Ap, cp, g1, hcp, hby⟩ := hpc q (by rw [HPL.out]; exact hltq)
          have hru := mwRuns_drop (ps := ps) (k := q) (by rw [HPL.out]; exact hltq) ss
          have hfl := flatten_drop (ps := ps) (k := q) (by rw [HPL.out]; exact hltq)
          generalize hpq : ps.getD q [] = p at *
          obtain ⟨ab, hab1, hab2⟩ := own_cells HOM.out
          have hss := HM.out.len
          have hXmb : X mb := by rw [HXD.out]; exact .inl rfl
          have hblkr : Blk wr mb 97 #[.slice Am k cm] := HBK.out.keep (HM.out.fx mb hXmb).2
          have hXab : 0 < k → X ab := fun hh => by rw [HXD.out]; exact .inr (.inl (hab1 hh).2.2)
          have hpl1 : p.length ≤ 70368744177664 := by
            by_cases hk0 : 0 < k
            · have h0 := (HBD.out (ss.getD 0 (0, [])) (by rw [List.getD_eq_getElem?_getD, List.getElem?_eq_getElem (by omega)]; exact List.getElem_mem _)).1
              omega
            · have h0 : (ps.drop q).flatten.length ≤ ps.flatten.length := by
                conv => rhs; rw [← List.take_append_drop q ps, List.flatten_append, List.length_append]
                omega
              have := HJ.out
              omega
          have HCW : Hid (∀ (w6 : World) (A6 : Option Addr) (c6 : Nat), Appended w.heap.size 5 1 A6 p.length c6 (bytesV p) (some wr.heap.size) ((wr.alloc (.cells #[] 5)).drew) w6 → Calls Tryd.prog 59 #[.pointer (some ⟨mb, 0, none⟩), .slice A6 p.length c6] w6 (MwPost w.heap.size E sb G k (mwStep ss p) w6)) := Lib.hid fun w6 A6 c6 hap => by
            have z6 := hap.sizeLe
            have z6' : wr.heap.size + 1 ≤ w6.heap.size := by simpa using z6
            have K6 : Kept (fun _ => False) wr w6 := (((Kept.refl (fun j => some j = some wr.heap.size) wr).alloc (.cells #[] 5)).drew.trans hap.kept fun _ _ h' => h').mono' fun j hj e => by injection e with e; omega
            have hE6 : Errs B w6 E := HE.out.below ((HM.out.bl.trans (K6.below hsy fun _ _ hf => hf)).mono hBw)
            have hb6 : ∀ j, (Value.slice A6 p.length c6).ownBlock = some j → wr.heap.size ≤ j := fun j e => by
              rcases hap.2.2 with h' | h'
              · rw [e] at h'; injection h' with h'; omega
              · rw [e] at h'
                have h2 : j = (wr.alloc (.cells #[] 5)).heap.size := by injection h'
                simp at h2
                omega
            have hX6 : ∀ j, X j → w6.heap[j]? = w5.heap[j]? := fun j hX => by
              rw [K6.block j (by have := (HM.out.fx j hX).1; omega) (fun hf => hf), (HM.out.fx j hX).2]
            have hcell : ∀ i, i < ss.length → w6.cell? ⟨ab, i, none⟩ = some (.iface 60 (.pointer (some ⟨sb i, 0, none⟩))) := fun i hi => by
              rw [hss] at hi
              rw [World.cell?_of_block (w := w5) (a := ⟨ab, i, none⟩) (hX6 ab (hXab (by omega))), hab2 i hi, mwV_get hi]
            have C := mw_write (B := w.heap.size) (S := fun j => wr.heap.size ≤ j) (ss := ss) (p := p) (cp := c6) (hE6.mono hBw (.inl trivial)) (by omega) (HM.out.sk.kept K6 fun _ _ hf => hf) (mb := mb) (ab := ab) (c := cm) (A := Am) (by rw [hss]; exact HBK.out.keep (hX6 mb hXmb)) (fun hh => ⟨(hab1 (by omega)).1, by have := (hab1 (by omega)).2.1; omega⟩) hcell (fun i hi hG => HM.out.gx i (by omega) ab hG (hXab (by omega))) ((own_bytes hap.own).mono fun j _ e => hb6 j e) (fun j hj i hi hG => by have := HM.out.sk.flt hi hG; omega) (own_cap hap.own) (fun x hx => by have := (HBD.out x hx).2; omega) (fun x hx => by have := (HBD.out x hx).1; omega) (by omega) (by omega)
            rw [hss] at C
            exact C
          have hme := mwStep_err ss p
          have hml := mwStep_length ss p
          have hmb2 : ∀ x ∈ (mwStep ss p).2, x.2.length + (ps.drop (q + 1)).flatten.length ≤ 70368744177664 ∧ x.1 ≤ 9223372036854775807 := fun x hx => by
            have := mwStep_bound (ss := ss) (p := p) (b := 70368744177664 - (ps.drop q).flatten.length) (M := 9223372036854775807) (fun y hy => ⟨by have := (HBD.out y hy).1; omega, (HBD.out y hy).2⟩) x hx
            have h2 := this.1
            have hle : (ps.drop q).flatten.length ≤ 70368744177664 := by
              have h0 : (ps.drop q).flatten.length ≤ ps.flatten.length := by
                conv => rhs; rw [← List.take_append_drop q ps, List.flatten_append, List.length_append]
                omega
              have := HJ.out
              omega
            omega
          unfold MwPost at HCW
          generalize mwStep ss p = r at *
          obtain ⟨⟨rn, re⟩, ss'⟩ := r
          simp only at HCW hme hml hmb2 hru
          have HRN := Lib.hid hru
          have HB2 := Lib.hid hmb2
          have HML := Lib.hid (hml.trans hss)
          have HOE := Lib.hid (own_drew (own_empty wr w.heap.size 5 1 hsy))
          have HNW := Lib.hid (((hby.alloc (.cells #[] 5)).drew).news)
          have HBV := Lib.hid (show (bytesV p).length = p.length * 1 by rw [bytesV_length]; omega)
          have HME := Lib.hid hme
          clear hpc hby hru hfl hpq hab1 hab2 hXmb hblkr hXab hmb2 hml hme hss
          go_wp2_with fail
          go_region_law (first
            | (refine step_append_new _ (by rfl) (.tmp 53) (.tmp 54) 31 (by rfl) w.heap.size 5 i0 _ 1 1 Tryd.underlying31 hi0 hz0 hz1 hz2 rfl (by omega) _ (by rfl) HOE.out Ap p.length cp (bytesV p) (by rfl) HBV.out HNW.out (bytesV_one p) (by unfold maxLen; omega) (by omega) (by simp; omega) ?_; intro A6 c6 w6 hap; have CW := HCW.out w6 A6 c6 (by simpa [Value.ownBlock] using hap))
            | (go_simp; go_at_call 59; refine CW.mono ?_; rintro e w7 ⟨rfl, ⟨G7, hs7, hG7⟩, hk7⟩))
          all_goals
            have K6 : Kept (fun _ => False) wr w6 := (((Kept.refl (fun j => some j = some wr.heap.size) wr).alloc (.cells #[] 5)).drew.trans (show Kept (fun j => some j = some wr.heap.size) _ w6 by have := hap.kept; simpa [Value.ownBlock] using this) fun _ _ h' => h').mono' fun j hj e => by injection e with e; omega
            have z6 := K6.size
            have z7 := hk7.size
            have K7 : Kept (fun j => ∃ i, i < k ∧ G i j) wr w7 := (K6.mono' fun _ _ hf => hf.elim).trans hk7 fun _ _ h' => h'
            have hE7 : Errs B w7 E := HE.out.below ((HM.out.bl.trans (K7.below hsy fun j hj ⟨i, hi, hG⟩ => by have := HM.out.sk.lo i (by rw [HM.out.len]; exact hi) j hG; omega)).mono hBw)
            have CE' := Lib.hid (fromError_any hE7 re (by rcases HME.out with h' | h'; exact .inl h'; exact .inr ⟨3, h', rfl⟩))
            rw [show codeI re = re by rcases HME.out with rfl | rfl <;> rfl] at CE'
            have HO7 := Lib.hid ((HM.out.row.kept mvO K7 (fun j e ⟨i, hi, hG'⟩ => HM.out.rg j e i hi hG') (fun _ hf => hf.elim)).own)
            have HEL : Hid (ElO (fun _ => False) w7 [.slice none 0 0, .int .i64 (rn : Int), .int .i64 re] ([], (rn : Int), re)) := Lib.hid ⟨none, 0, rfl, Nat.le_refl _, BytesAt.nil _ _ _⟩
            have HK6 := Lib.hid K6
            have HS7 := Lib.hid hs7
            have HG7 := Lib.hid hG7
            have HK7 := Lib.hid hk7
            have hs7w : w.heap.size ≤ w7.heap.size := by omega
            clear hap CW K6 hs7 hG7 hk7 K7 hE7 HCW HOE HNW HBV g1
            generalize errV E re = ev at *
            go_wp2_with fail
            refine CE'.out.mono ?_
            rintro e w' ⟨rfl, rfl⟩
            go_wp2_with (at_builtin; refine wpList_append_gen _ rfl (.tmp 62) (.tmp 67) 25 rfl w.heap.size 38 i1 _ 3 40 Tryd.underlying25 hi1 hy0 hy1 hy2 rfl (by omega) _ q xs rfl (HO7.out.alloc _) (some ⟨w7.heap.size, 0, none⟩) 1 1 [.slice none 0 0, .int .i64 (rn : Int), .int .i64 re] rfl (by rfl) ((Blk.new w7 38 #[.slice none 0 0, .int .i64 (rn : Int), .int .i64 re]).news 1) (by simp [Value.oneCell']) (by unfold maxLen; omega) (by omega) (by simp; omega) ?_)
            intro A8 c8 w8 hap8
            have HM8 := Lib.hid (m2_next HM.out HK6.out HS7.out HML.out HG7.out HK7.out ((Kept.refl (fun _ => False) w7).alloc _) hap8 rfl HEL.out)
            have e8 : (done.map fun x => (([] : List Int), (x.1 : Int), x.2)) ++ [([], (rn : Int), re)] = ((done ++ [(rn, re)]).map fun x => (([] : List Int), (x.1 : Int), x.2)) := by rw [List.map_append]; rfl
            rw [e8] at HM8
            clear hap8 e8
            go_wp2_with fail
            go_roundg (np - (q + 1))
            case measure => omega
            case rel => exact ⟨q + 1, A8, c8, _, G7, ss', done ++ [(rn, re)], by omega, rfl, by go_num, rfl, HM8, Lib.hid (by rw [HRU.out, HRN.out, List.append_assoc]; rfl), HB2⟩
        · have hqn : ps.drop q = [] := List.drop_of_length_le (by have := HPL.out; omega)
          rw [hqn] at HRU
          simp only [mwRuns, List.append_nil] at HRU
          have HLD : Hid (done.length = q) := Lib.hid (by have := HM.out.row.len; rw [List.length_map] at this; exact this)
          have hXs : ∀ j, (Value.slice As k cs).ownBlock = some j → X j := fun j e => by rw [HXD.out]; exact .inr (.inr e)
          have HSR := Lib.hid (show wr.ownsRow w.heap.size 60 1 (.slice As k cs) k (ptrV sb k) from ⟨HS5.out.1, by
            rcases HS5.out.2 with h2 | ⟨g, cap, cur, hv, hg, hh, r⟩
            · exact Or.inl h2
            · exact Or.inr ⟨g, cap, cur, hv, hg, by rw [(HM.out.fx g (hXs g (by rw [hv]; rfl))).2]; exact hh, r⟩⟩)
          obtain ⟨ab, hab1, hab2⟩ := own_cells HSR.out
          have HAB1 := Lib.hid hab1
          have HAB2 := Lib.hid hab2
          clear hqn hXs hab1 hab2
          go_wp2_with fail
          obtain ⟨w8, hw8⟩ : ∃ w8, w8 = wr := ⟨_, rfl⟩
          have HW8 := Lib.hid hw8
          rw [← hw8] at HM HSR HAB1 HAB2
          have hs8 : w.heap.size ≤ w8.heap.size := by rw [hw8]; exact hsy
          clear hw8
          go_loopg [17, 73] k (fun f v i wz => ∃ (m : Nat) (A7 : Option Addr) (c7 : Nat) (ys : List Value), m ≤ k ∧ f = k - m ∧ i = .int .i64 m ∧ v = .slice A7 m c7 ∧ Hid (RowT ElB 1 31 w8.heap.size (fun j => ∃ i, i < k ∧ G i j) wz A7 m c7 ((ss.take m).map (·.2)) ys) ∧ Hid (Below w8.heap.size w8 wz))
          case atStart =>
            refine ⟨0, _, 0, [], Nat.zero_le _, by omega, rfl, rfl, Lib.hid ?_, Lib.hid ?_⟩
            · have := RowT.empty ElB 1 (fun j => ∃ i, i < k ∧ G i j) 31 wr wr.heap.size (Nat.le_refl _)
              rw [HW8.out]
              simpa using this
            · rw [HW8.out]
              exact (Below.refl _ _).alloc (Nat.le_refl _) _
          case round =>
            obtain ⟨m, A7, c7, ys, hm, rfl, rfl, rfl, HT, HB⟩ := hrel
            have hszz := HB.out.size
            by_cases hltm : m < k
            · obtain ⟨hAe, habl, _⟩ := HAB1.out (by omega)
              subst hAe
              have g1 := (HB.out.cell (p := ⟨ab, m, none⟩) habl).trans ((HAB2.out m hltm).trans (ptrV_get hltm))
              have hms : m < ss.length := by rw [HM.out.len]; exact hltm
              have hwr := HM.out.sk.wr m hms
              have htk : (ss.take (m + 1)).map (·.2) = (ss.take m).map (·.2) ++ [(ss.getD m (0, [])).2] := by
                rw [List.take_succ_eq_append_getElem hms, List.map_append]
                simp [hms]
              generalize ss.getD m (0, []) = x at *
              obtain ⟨left, d⟩ := x
              simp only at hwr htk
              obtain ⟨Ad, cd, hbk, hod, _, hGo, _⟩ := hwr
              have g2 := (HB.out.cell (p := ⟨sb m, 1, none⟩) hbk.lt).trans (hbk.cell 1)
              simp at g2
              have HEL : Hid (ElB (fun j => ∃ i, i < k ∧ G i j) wr [.slice Ad d.length cd] d) := Lib.hid ⟨Ad, cd, rfl, own_cap hod, ((own_bytes hod).mono fun j _ e => ⟨m, hltm, hGo j e⟩).keep HB.out.size fun j hj _ => HB.out.block j hj⟩
              have HTK := Lib.hid htk
              have hTo : ∀ j, (∃ i, i < k ∧ G i j) → some j ≠ (Value.slice A7 m c7).ownBlock := fun j ⟨i, hi, hG⟩ e => by
                have h1 := (own_block_lt HT.out.own e.symm).1
                have h2 := HM.out.sk.flt (i := i) (by rw [HM.out.len]; exact hi) hG
                omega
              have HTO := Lib.hid hTo
              clear hbk hod hGo htk hTo
              go_wp2_with (at_builtin; refine wpList_append_gen _ rfl (.tmp 77) (.tmp 82) 23 rfl w8.heap.size 31 ib _ 1 24 Tryd.underlying23 hib hb0 hb1 hb2 rfl (by omega) _ m ys rfl (HT.out.own.alloc _) (some ⟨wr.heap.size, 0, none⟩) 1 1 [.slice Ad d.length cd] rfl (by rfl) ((Blk.new wr 31 #[.slice Ad d.length cd]).news 1) (by simp [Value.oneCell']) (by unfold maxLen; omega) (by omega) (by simp; omega) ?_)
              intro A9 c9 w9 hap
              have HT9 := Lib.hid (HT.out.snoc mvB (x := d) ((Kept.refl (fun _ => False) wr).alloc _) hap HTO.out rfl HEL.out)
              have HB9 : Hid (Below w8.heap.size w8 w9) := Lib.hid ((HB.out.alloc hszz _).grown hap.grown (by simp; omega) fun j e => (own_block_lt HT.out.own e).1)
              rw [← HTK.out] at HT9
              clear hap
              go_wp2_with fail
              go_roundg (k - (m + 1))
              case measure => omega
              case rel => exact ⟨m + 1, A9, c9, _, by omega, rfl, by go_num, rfl, HT9, HB9⟩
            · have hmk : ss.take m = ss := List.take_of_length_le (by rw [HM.out.len]; omega)
              rw [hmk] at HT
              have HPO : Hid (MwiPost (mwRuns ps (lims.map fun l => (l.toNat, []))) w (.returned (.tuple #[.slice A' q c', .slice A7 m c7])) wr) := Lib.hid (by
                rw [HRU.out]
                have hl1 := HLD.out
                have hl2 := HT.out.len
                rw [List.length_map] at hl2
                refine ⟨A', c', A7, c7, by rw [hl1, hl2], by rw [hl1]; exact own_cap HM.out.row.own, by rw [hl2]; exact own_cap HT.out.own, ?_, ?_, HM.out.bl.trans (HB.out.mono hs8)⟩
                · exact ((HM.out.row.els mvO).keep mvO HB.out.size fun j hj _ => HB.out.block j hj).mono mvO fun j _ hj => by
                    rcases hj with h' | h'
                    · exact h'.elim
                    · exact (own_block_lt HM.out.row.own h').1
                · exact (HT.out.els mvB).mono mvB fun j _ hj => by
                    rcases hj with ⟨i, hi, hG⟩ | h'
                    · exact HM.out.sk.lo i (by rw [HM.out.len]; exact hi) j hG
                    · have := (own_block_lt HT.out.own h').1; omega)
              go_wp2_with fail
              go_ret2
              exact HPO.out

end Go.Proofs.YtmoecjhlonokfaaDoor
