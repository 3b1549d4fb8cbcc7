/- The section reader over bytes.Reader: Seek; how one is made. -/
import Derived.Test.YtdlgknaipljhhaaDoorSec2
set_option linter.unusedVariables false
set_option linter.unusedSimpArgs false
namespace Go.Proofs.YtdlgknaipljhhaaDoor
open Go.RowKit

/-- what a seek leaves -/
def SeekPost (E : Nat → Addr) (S : Nat → Prop) (sb rb : Nat) (data : List Int) (off n : Nat) (r y : Int) (pos' : Nat) (w : World) (e : Ending) (w' : World) : Prop :=
  ∃ x, e = .returned (.tuple #[.int .i64 r, errV E x]) ∧ codeI x = y ∧ (x = 0 ∨ ∃ k : Nat, x = k ∧ isErr k = true) ∧ SecAt S w' sb rb data off n pos' ∧ Kept (· = sb) w w'

theorem sec_to {S : Nat → Prop} {w : World} {sb rb : Nat} {data : List Int} {off n pos pos' : Nat} (h : SecAt S w sb rb data off n pos) : SecAt S (w.setCell ⟨sb, 2, none⟩ (.int .i64 ((off + pos' : Nat) : Int))) sb rb data off n pos' ∧ Kept (· = sb) w (w.setCell ⟨sb, 2, none⟩ (.int .i64 ((off + pos' : Nat) : Int))) := by
  obtain ⟨A, c, h1, h2, h3, h4, h5⟩ := h
  have n3 : rb ≠ sb := h2.ne_of h1 (by decide)
  refine ⟨⟨A, c, ?_, h2.far (p := ⟨sb, 2, none⟩) n3 _, h3, h4.setCell (fun hS => (h5 _ hS).1 rfl) _, h5⟩, (Kept.refl (· = sb) w).setCell (p := ⟨sb, 2, none⟩) (fun _ => rfl) _⟩
  simpa using h1.put 2 (.int .i64 ((off + pos' : Nat) : Int))

set_option maxHeartbeats 1000000 in
set_option maxRecDepth 100000 in
theorem sec_seek {B : Nat} {S : Nat → Prop} {w : World} {E : Nat → Addr} (hE : Errs B w E) {sb rb : Nat} {data : List Int} {off n pos : Nat} {a b : Int} (h : SecAt S w sb rb data off n pos) (hn : off + n ≤ data.length) (hbd : data.length ≤ 281474976710656) (hpos : pos ≤ 1152921504606846976) (ha : -1048576 ≤ a ∧ a ≤ 1048576) :
    Calls Tryd.prog 22 #[.pointer (some ⟨sb, 0, none⟩), .int .i64 a, .int .i64 b] w (SeekPost E S sb rb data off n (opStep ((data.drop off).take n) pos (2, a, b)).1.2.1 (opStep ((data.drop off).take n) pos (2, a, b)).1.2.2 (opStep ((data.drop off).take n) pos (2, a, b)).2 w) := by
  have hall : ((data.drop off).take n).length = n := by simp; omega
  have g9 := hE.cell 9 rfl
  have g10 := hE.cell 10 rfl
  simp only [errG] at g9 g10
  have HSC := Lib.hid h
  obtain ⟨A, c, h1, h2, h3, h4, h5⟩ := h
  have z1 := h1.cell 1
  have z2 := h1.cell 2
  have z3 := h1.cell 3
  have f2 := h1.frozen 2
  simp only [List.getElem?_toArray, List.getElem?_cons_zero, List.getElem?_cons_succ] at z1 z2 z3
  have HBAD : Hid (∀ (q k : Nat), isErr k = true → codeI k = 7 → SeekPost E S sb rb data off n 0 7 pos w (.returned (.tuple #[.int .i64 0, .iface 65 (.pointer (some (E k)))])) (w.drewN q)) := Lib.hid fun q k hk hc => ⟨(k : Int), by rw [errV_pos E k hk], hc, .inr ⟨k, rfl, hk⟩, HSC.out.drewN q, (Kept.refl _ w).drewN q⟩
  have HTO := Lib.hid fun pos' : Nat => sec_to (pos' := pos') HSC.out
  have hofb : off ≤ 281474976710656 := by omega
  have hst : opStep ((data.drop off).take n) pos (2, a, b) = if b < 0 ∨ 2 < b ∨ a + (if b = 1 then (pos : Int) else if b = 2 then (n : Int) else 0) < 0 then (([], 0, 7), pos) else (([], a + (if b = 1 then (pos : Int) else if b = 2 then (n : Int) else 0), 0), (a + (if b = 1 then (pos : Int) else if b = 2 then (n : Int) else 0)).toNat) := by
    unfold opStep seekTo
    rw [hall]
    simp
  rw [hst]
  clear hst hall h1 h2 h4 h5 hE HSC
  by_cases hb0 : b = 0
  · subst hb0
    simp only [show ¬ ((0 : Int) < 0) by omega, show ¬ ((2 : Int) < 0) by omega, show ¬ ((0 : Int) = 1) by omega, show ¬ ((0 : Int) = 2) by omega, if_false, false_or]
    by_cases hneg : a + 0 < 0
    · rw [if_pos hneg]
      have hlt : a + ((off : Nat) : Int) < (off : Int) := by omega
      have hb1 : -9223372036854775808 ≤ a + ((off : Nat) : Int) := by omega
      clear hneg HTO hn hpos hbd
      generalize off + pos = o at *
      generalize off + n = l at *
      go_enter Tryd.func22, Tryd.ntmps22
      go_wp2_with fail
      go_quiet (fail)
      go_wp2_with fail
      go_ret2
      exact HBAD.out _ 10 rfl rfl
    · rw [if_neg hneg]
      obtain ⟨p', hp'⟩ : ∃ p' : Nat, a + 0 = (p' : Int) := ⟨(a + 0).toNat, by omega⟩
      rw [hp', Int.toNat_natCast]
      have HT := Lib.hid (HTO.out p')
      have hadd : a + ((off : Nat) : Int) = ((off + p' : Nat) : Int) := by omega
      have hsub : ((off + p' : Nat) : Int) - (off : Int) = (p' : Int) := by omega
      have hge : ¬ ((off + p' : Nat) : Int) < (off : Int) := by omega
      have hob : off + p' ≤ 2305843009213693952 := by omega
      have hpb : p' ≤ 2305843009213693952 := by omega
      clear hneg HTO hn hpos hbd hp' HBAD
      generalize off + p' = o' at *
      generalize off + pos = o at *
      generalize off + n = l at *
      go_enter Tryd.func22, Tryd.ntmps22
      go_wp2_with fail
      go_ret2
      exact ⟨0, rfl, rfl, .inl rfl, HT.out⟩
  by_cases hb1 : b = 1
  · subst hb1
    simp only [show ¬ ((1 : Int) < 0) by omega, show ¬ ((2 : Int) < 1) by omega, if_true, if_false, false_or]
    by_cases hneg : a + (pos : Int) < 0
    · rw [if_pos hneg]
      have hlt : a + ((off + pos : Nat) : Int) < (off : Int) := by omega
      have hb1 : -9223372036854775808 ≤ a + ((off + pos : Nat) : Int) := by omega
      clear hneg HTO hn hpos hbd
      generalize off + n = l at *
      generalize off + pos = o at *
      go_enter Tryd.func22, Tryd.ntmps22
      go_wp2_with fail
      go_quiet (fail)
      go_wp2_with fail
      go_ret2
      exact HBAD.out _ 10 rfl rfl
    · rw [if_neg hneg]
      obtain ⟨p', hp'⟩ : ∃ p' : Nat, a + (pos : Int) = (p' : Int) := ⟨(a + (pos : Int)).toNat, by omega⟩
      rw [hp', Int.toNat_natCast]
      have HT := Lib.hid (HTO.out p')
      have hadd : a + ((off + pos : Nat) : Int) = ((off + p' : Nat) : Int) := by omega
      have hsub : ((off + p' : Nat) : Int) - (off : Int) = (p' : Int) := by omega
      have hge : ¬ ((off + p' : Nat) : Int) < (off : Int) := by omega
      have hob : off + p' ≤ 2305843009213693952 := by omega
      have hpb : p' ≤ 2305843009213693952 := by omega
      clear hneg HTO hn hpos hbd hp' HBAD
      generalize off + p' = o' at *
      generalize off + pos = o at *
      generalize off + n = l at *
      go_enter Tryd.func22, Tryd.ntmps22
      go_wp2_with fail
      go_ret2
      exact ⟨0, rfl, rfl, .inl rfl, HT.out⟩
  by_cases hb2 : b = 2
  · subst hb2
    simp only [show ¬ ((2 : Int) < 0) by omega, show ¬ ((2 : Int) < 2) by omega, show ¬ ((2 : Int) = 1) by omega, if_true, if_false, false_or]
    by_cases hneg : a + (n : Int) < 0
    · rw [if_pos hneg]
      have hlt : a + ((off + n : Nat) : Int) < (off : Int) := by omega
      have hb1 : -9223372036854775808 ≤ a + ((off + n : Nat) : Int) := by omega
      clear hneg HTO hn hpos hbd
      generalize off + pos = o at *
      generalize off + n = l at *
      go_enter Tryd.func22, Tryd.ntmps22
      go_wp2_with fail
      go_quiet (fail)
      go_wp2_with fail
      go_ret2
      exact HBAD.out _ 10 rfl rfl
    · rw [if_neg hneg]
      obtain ⟨p', hp'⟩ : ∃ p' : Nat, a + (n : Int) = (p' : Int) := ⟨(a + (n : Int)).toNat, by omega⟩
      rw [hp', Int.toNat_natCast]
      have HT := Lib.hid (HTO.out p')
      have hadd : a + ((off + n : Nat) : Int) = ((off + p' : Nat) : Int) := by omega
      have hsub : ((off + p' : Nat) : Int) - (off : Int) = (p' : Int) := by omega
      have hge : ¬ ((off + p' : Nat) : Int) < (off : Int) := by omega
      have hob : off + p' ≤ 2305843009213693952 := by omega
      have hpb : p' ≤ 2305843009213693952 := by omega
      clear hneg HTO hn hpos hbd hp' HBAD
      generalize off + p' = o' at *
      generalize off + pos = o at *
      generalize off + n = l at *
      go_enter Tryd.func22, Tryd.ntmps22
      go_wp2_with fail
      go_ret2
      exact ⟨0, rfl, rfl, .inl rfl, HT.out⟩
  have hbad : b < 0 ∨ 2 < b := by omega
  rw [if_pos (by omega)]
  have e0 : (b == 0) = false := by simp [hb0]
  have e1 : (b == 1) = false := by simp [hb1]
  have e2 : (b == 2) = false := by simp [hb2]
  clear HTO hn hpos hbd hbad hb0 hb1 hb2
  generalize off + pos = o at *
  generalize off + n = l at *
  go_enter Tryd.func22, Tryd.ntmps22
  go_wp2_with fail
  go_quiet (fail)
  go_wp2_with fail
  go_ret2
  exact HBAD.out _ 9 rfl rfl

theorem bytesReader_new (A : Option Addr) (n c : Nat) (w : World) :
    Calls Tryd.prog 18 #[.slice A n c] w fun e w' => e = .returned (.pointer (some ⟨w.heap.size, 0, none⟩)) ∧ w' = w.alloc (.cells #[.slice A n c, .int .i64 0, .int .i64 (-1)] 64) := by
  go_enter Tryd.func18, Tryd.ntmps18
  go_wp2_with fail
  go_ret
  exact ⟨rfl, rfl⟩

set_option maxRecDepth 100000 in
theorem section_new (a : Addr) (off n : Nat) (h : off + n ≤ 281474976710656) (w : World) :
    Calls Tryd.prog 17 #[.iface 40 (.pointer (some a)), .int .i64 (off : Int), .int .i64 (n : Int)] w fun e w' => e = .returned (.pointer (some ⟨w.heap.size, 0, none⟩)) ∧ w' = w.alloc (.cells #[.iface 40 (.pointer (some a)), .int .i64 (off : Int), .int .i64 (off : Int), .int .i64 ((off + n : Nat) : Int), .int .i64 (n : Int)] 62) := by
  have hle : (off : Int) ≤ 9223372036854775807 - (n : Int) := by omega
  have hadd : (n : Int) + (off : Int) = ((off + n : Nat) : Int) := by omega
  have hb : n ≤ 281474976710656 := by omega
  generalize off + n = l at *
  go_enter Tryd.func17, Tryd.ntmps17
  go_wp2_with fail
  go_ret
  exact ⟨rfl, rfl⟩

end Go.Proofs.YtdlgknaipljhhaaDoor
