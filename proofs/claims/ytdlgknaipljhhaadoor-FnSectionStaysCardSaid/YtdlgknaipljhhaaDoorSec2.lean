/- The section reader over bytes.Reader: ReadAt, Size, Seek; how one is made. -/
import Derived.Test.YtdlgknaipljhhaaDoorSec
set_option linter.unusedVariables false
set_option linter.unusedSimpArgs false
namespace Go.Proofs.YtdlgknaipljhhaaDoor
open Go.RowKit

theorem SecAt.drewN {S : Nat → Prop} {w : World} {sb rb : Nat} {data : List Int} {off n pos : Nat} (h : SecAt S w sb rb data off n pos) (q : Nat) : SecAt S (w.drewN q) sb rb data off n pos := h.kept ((Kept.refl (fun _ => False) w).drewN q) fun _ _ _ hf => hf

set_option maxRecDepth 100000 in
theorem sec_size {S : Nat → Prop} {w : World} {sb rb : Nat} {data : List Int} {off n pos : Nat} (h : SecAt S w sb rb data off n pos) (hn : off + n ≤ data.length) (hbd : data.length ≤ 281474976710656) :
    Calls Tryd.prog 23 #[.pointer (some ⟨sb, 0, none⟩)] w fun e w' => e = .returned (.int .i64 (n : Int)) ∧ ∃ q, w' = w.drewN q := by
  obtain ⟨A, c, h1, h2, h3, h4, h5⟩ := h
  have z1 := h1.cell 1
  have z3 := h1.cell 3
  simp only [List.getElem?_toArray, List.getElem?_cons_zero, List.getElem?_cons_succ] at z1 z3
  have hsub : ((off + n : Nat) : Int) - (off : Int) = (n : Int) := by omega
  have hnb : n ≤ 281474976710656 := by omega
  clear h1 h2 h4 h5 hn
  generalize off + n = l at *
  go_enter Tryd.func23, Tryd.ntmps23
  go_wp2_with fail
  go_quiet (fail)
  go_wp2_with fail
  go_ret
  exact ⟨rfl, _, rfl⟩

set_option maxHeartbeats 1000000 in
set_option maxRecDepth 100000 in
theorem sec_readAt {B : Nat} {S : Nat → Prop} {w : World} {E : Nat → Addr} (hE : Errs B w E) {sb rb pb : Nat} {data : List Int} {off n pos bo m cp : Nat} {pc : List Value} (h : SecAt S w sb rb data off n pos) (hn : off + n ≤ data.length) (hbd : data.length ≤ 281474976710656) (hbo : bo ≤ 1048576)
    (hp : Blk w pb 5 pc.toArray) (hSp : ¬ S pb) (hBp : B ≤ pb) (hm : m ≤ pc.length) (hmc : m ≤ cp) (hm2 : m ≤ 1048576) :
    Calls Tryd.prog 21 #[.pointer (some ⟨sb, 0, none⟩), .slice (some ⟨pb, 0, none⟩) m cp, .int .i64 bo] w (SecPost E S sb rb pb data off n (partOf ((data.drop off).take n) bo m) (if (partOf ((data.drop off).take n) bo m).length < m ∨ n ≤ bo then 1 else 0) pos w) := by
  have g1 := hE.cell 1 rfl
  simp only [errG] at g1
  have CZ := Lib.hid (sec_size h hn hbd)
  have HSC := Lib.hid h
  obtain ⟨A, c, h1, h2, h3, h4, h5⟩ := h
  have z0 := h1.cell 0
  have z1 := h1.cell 1
  have z3 := h1.cell 3
  have hne : sb ≠ pb := h1.ne_of hp (by decide)
  have hne2 : rb ≠ pb := h2.ne_of hp (by decide)
  simp only [List.getElem?_toArray, List.getElem?_cons_zero, List.getElem?_cons_succ] at z0 z1 z3
  by_cases hend : n ≤ bo
  · rw [if_pos (.inr hend), part_eq, show min m (n - bo) = 0 by omega, List.take_zero]
    have hle : (n : Int) ≤ (bo : Int) := by omega
    have HPO : Hid (∀ q q', SecPost E S sb rb pb data off n [] 1 pos w (.returned (.tuple #[.int .i64 0, .iface 65 (.pointer (some (E 1)))])) ((w.drewN q).drewN q')) := Lib.hid fun q q' => ⟨by rw [show errV E 1 = .iface 65 (.pointer (some (E 1))) from errV_pos E 1 rfl]; rfl, (HSC.out.drewN q).drewN q', ⟨pc, by simpa [bytesV] using (hp.drewN q).drewN q'⟩, ((Kept.refl _ w).drewN q).drewN q'⟩
    clear hE h1 h2 h4 h5 hp hend hn HSC
    go_enter Tryd.func21, Tryd.ntmps21
    go_wp2_with fail
    refine CZ.out.mono ?_
    rintro e w0 ⟨rfl, q0, rfl⟩
    clear CZ
    go_wp2_with fail
    go_quiet (fail)
    go_wp2_with fail
    go_ret2
    exact HPO.out _ _
  · have hlt : ¬ (n : Int) ≤ (bo : Int) := by omega
    obtain ⟨k, hk⟩ : ∃ k, n - bo = k := ⟨_, rfl⟩
    obtain ⟨o, ho⟩ : ∃ o, off + bo = o := ⟨_, rfl⟩
    have hadd : (bo : Int) + (off : Int) = (o : Int) := by omega
    have hsub : ((off + n : Nat) : Int) - (o : Int) = (k : Int) := by omega
    have hk0 : 0 < k := by omega
    have hkb : k ≤ 281474976710656 := by omega
    have hofb : off ≤ 281474976710656 := by omega
    have hnil := nilAhead_rat ⟨rb, 0, none⟩
    have hmet := method_rat ⟨rb, 0, none⟩
    rw [part_eq, hk, ho]
    by_cases hmk : k < m
    · have hmk' : (k : Int) < (m : Int) := by omega
      have hsl := fun w => slice_bytes_0 ⟨pb, 0, none⟩ m cp k (by omega) (by omega) w
      rw [Nat.min_eq_right (Nat.le_of_lt hmk), if_pos (.inl (by simp; omega))]
      have hGE := hE.glt 1 rfl
      simp only [errG] at hGE
      have hGp : ¬ (0 : Nat) = pb := by omega
      have hgw : (0 : Nat) < w.heap.size := by have := hp.lt; omega
      have HLN : Hid (((data.drop o).take k).length = k) := Lib.hid (by simp; omega)
      have HC := Lib.hid fun (w' : World) (hk' : Kept (fun _ => False) w w') => rat_any (w := w') (cp := cp) (h2.kept hk' (fun h => h)) h3 (h4.kept hk' fun _ _ _ h => h) (hp.kept hk' (fun h => h)) (m := k) (by omega) (show o < data.length by omega) (by omega) hbd
      generalize hpart : (data.drop o).take k = part at *
      have HMV : Hid (∀ w1 : World, Blk w1 pb 5 (splice pc 0 (bytesV part)).toArray → Kept (· = pb) w w1 → SecAt S w1 sb rb data off n pos ∧ (∃ rest, Blk w1 pb 5 (bytesV part ++ rest).toArray) ∧ Kept (fun k => k = sb ∨ k = pb) w w1) := Lib.hid fun w1 hb hk' => by
        obtain ⟨rest, hrest⟩ := splice_head pc part
        exact ⟨⟨A, c, h1.kept hk' hne, h2.kept hk' hne2, h3, h4.kept hk' (fun j _ hS e => hSp (e ▸ hS)), h5⟩, ⟨rest, by rw [← hrest]; exact hb⟩, hk'.mono fun _ _ e => .inr e⟩
      have hob : o + 1048576 ≤ 562949953421312 := by omega
      clear hpart h1 h2 h4 h5 hp hn hend hE hk
      generalize off + n = l at *
      clear ho hne2
      go_enter Tryd.func21, Tryd.ntmps21
      go_wp2_with fail
      refine CZ.out.mono ?_
      rintro e w0 ⟨rfl, q0, rfl⟩
      clear CZ
      go_wp2_with fail
      refine (HC.out _ ((Kept.refl _ w).drewN _)).mono ?_
      rintro e w1 ⟨rfl, hb1, hk1⟩
      have hK1 : Kept (· = pb) w w1 := ((Kept.refl _ w).drewN _).trans hk1 fun _ _ h => h
      have HB1 := Lib.hid hb1
      have HK1 := Lib.hid hK1
      have g2 := (hK1.cell (p := ⟨0, 0, none⟩) hgw hGp).trans g1
      clear hb1 hk1 hK1 HC
      go_wp2_with fail
      go_ret2
      exact ⟨by rw [HLN.out, show errV E 1 = .iface 65 (.pointer (some (E 1))) from errV_pos E 1 rfl]; rfl, HMV.out w1 HB1.out HK1.out⟩
    · have hmk' : ¬ (k : Int) < (m : Int) := by omega
      rw [Nat.min_eq_left (by omega), if_neg (by simp; omega)]
      have HLN : Hid (((data.drop o).take m).length = m) := Lib.hid (by simp; omega)
      have HC := Lib.hid fun (w' : World) (hk' : Kept (fun _ => False) w w') => rat_any (w := w') (cp := cp) (h2.kept hk' (fun h => h)) h3 (h4.kept hk' fun _ _ _ h => h) (hp.kept hk' (fun h => h)) (m := m) (by omega) (show o < data.length by omega) (by omega) hbd
      generalize hpart : (data.drop o).take m = part at *
      have HMV : Hid (∀ w1 : World, Blk w1 pb 5 (splice pc 0 (bytesV part)).toArray → Kept (· = pb) w w1 → SecAt S w1 sb rb data off n pos ∧ (∃ rest, Blk w1 pb 5 (bytesV part ++ rest).toArray) ∧ Kept (fun k => k = sb ∨ k = pb) w w1) := Lib.hid fun w1 hb hk' => by
        obtain ⟨rest, hrest⟩ := splice_head pc part
        exact ⟨⟨A, c, h1.kept hk' hne, h2.kept hk' hne2, h3, h4.kept hk' (fun j _ hS e => hSp (e ▸ hS)), h5⟩, ⟨rest, by rw [← hrest]; exact hb⟩, hk'.mono fun _ _ e => .inr e⟩
      have hob : o + 1048576 ≤ 562949953421312 := by omega
      clear hpart h1 h2 h4 h5 hp hn hend hE hk
      generalize off + n = l at *
      clear ho hne2
      go_enter Tryd.func21, Tryd.ntmps21
      go_wp2_with fail
      refine CZ.out.mono ?_
      rintro e w0 ⟨rfl, q0, rfl⟩
      clear CZ
      go_wp2_with fail
      refine (HC.out _ ((Kept.refl _ w).drewN _)).mono ?_
      rintro e w1 ⟨rfl, hb1, hk1⟩
      have hK1 : Kept (· = pb) w w1 := ((Kept.refl _ w).drewN _).trans hk1 fun _ _ h => h
      have HB1 := Lib.hid hb1
      have HK1 := Lib.hid hK1
      clear hb1 hk1 hK1 HC
      go_wp2_with fail
      go_ret2
      exact ⟨by rw [HLN.out]; rfl, HMV.out w1 HB1.out HK1.out⟩

end Go.Proofs.YtdlgknaipljhhaaDoor
