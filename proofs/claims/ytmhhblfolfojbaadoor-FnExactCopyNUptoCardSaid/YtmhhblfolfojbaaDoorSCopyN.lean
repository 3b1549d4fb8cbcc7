/- spec.CopyN over a source. -/
import Derived.Test.YtmhhblfolfojbaaDoorCopyN
set_option linter.unusedVariables false
set_option linter.unusedSimpArgs false
namespace Go.Proofs.YtmhhblfolfojbaaDoor
open Go.RowKit

set_option maxHeartbeats 1000000 in
set_option maxRecDepth 100000 in
theorem specCopyN_any {S : Nat → Prop} {w : World} {A : Option Addr} {st : List (List Int × Int)} (c : Nat) (h : RecsAt S w A st)
    (hn : st.length ≤ 281474976710656) (hj : (joinD st).length ≤ 70368744177664) (lim n : Nat) :
    Calls Tryd.prog 16 #[.agg #[.slice A st.length c], .agg #[.int .i64 lim], .int .i64 n] w (Post3 (copyNR (lastErr st) st lim n) w) := by
  have hS := h.mono (S' := (· < w.heap.size)) fun k hk _ => hk
  have C1 := fun (w' : World) (hb : Below w.heap.size w w') => Lib.hid (bytes_any c hn (by omega) (hS.below hb))
  have C2 := fun (w' : World) (hb : Below w.heap.size w w') => Lib.hid (last_any c hn (hS.below hb))
  have HR1 : Hid (n ≤ (joinD st).length → n ≤ lim → copyNR (lastErr st) st lim n = ((joinD st).take n, 0)) := Lib.hid fun h1 h2 => by unfold copyNR; rw [if_pos ⟨h1, h2⟩]
  have HR2 : Hid (¬ (n ≤ (joinD st).length ∧ n ≤ lim) → lim < (joinD st).length → copyNR (lastErr st) st lim n = ((joinD st).take lim, 3)) := Lib.hid fun h1 h2 => by unfold copyNR; rw [if_neg h1, if_pos h2]
  have HR3 : Hid (¬ (n ≤ (joinD st).length ∧ n ≤ lim) → ¬ lim < (joinD st).length → copyNR (lastErr st) st lim n = (joinD st, lastErr st)) := Lib.hid fun h1 h2 => by unfold copyNR; rw [if_neg h1, if_neg h2]
  clear h hS
  generalize copyNR (lastErr st) st lim n = R at *
  generalize joinD st = js at *
  go_enter Tryd.func16, Tryd.ntmps16
  go_wp2_with fail
  refine (C1 _ ?hb).out.mono ?_
  case hb => exact (((Below.refl _ _).alloc (Nat.le_refl _) _).alloc (by simp) _)
  rintro e w1 ⟨A1, c1, rfl, hc1, hby, hb1⟩
  have hB1 : Below w.heap.size w w1 := (((Below.refl _ _).alloc (Nat.le_refl _) _).alloc (by simp) _).trans (hb1.mono (by simp; omega))
  have hs1 := hb1.size
  simp at hs1
  have y0 : w1.cell? ⟨w.heap.size, 0, none⟩ = some (.slice A st.length c) := (hb1.cell (p := ⟨w.heap.size, 0, none⟩) (by simp; omega)).trans (by simp)
  have y1 : w1.cell? ⟨w.heap.size + 1, 0, none⟩ = some (.int .i64 lim) := (hb1.cell (p := ⟨w.heap.size + 1, 0, none⟩) (by simp)).trans (by simp)
  simp at hby
  have HBY := Lib.hid (hby.mono (S' := fun j => w.heap.size ≤ j) fun k _ hk => by omega)
  have HB1 := Lib.hid hB1
  clear hby hb1 hB1
  have HP : Hid (∀ (k : Nat) (x : Int) (q : Nat), k ≤ js.length → R = (js.take k, x) → Post3 R w (.returned (.tuple #[.int .i64 k, .int .i64 x, .slice A1 k c1])) (w1.drewN q)) := Lib.hid fun k x q hk hR => by
    have htl : (js.take k).length = k := by rw [List.length_take]; omega
    subst hR
    unfold Post3
    simp only [htl]
    exact ⟨A1, c1, rfl, by omega, (HBY.out.take k).drewN q, below_drewN HB1.out q⟩
  by_cases h1 : n ≤ js.length
  · have h1' : (n : Int) ≤ (js.length : Int) := by omega
    by_cases h2 : n ≤ lim
    · have h2' : (n : Int) ≤ (lim : Int) := by omega
      have hsl := fun w' : World => slice_bytes_to A1 js.length c1 n (by omega) w'
      have HR := Lib.hid (HR1.out h1 h2)
      clear HR1 HR2 HR3
      go_wp2_with fail
      go_quiet (fail)
      go_wp2_with fail
      go_ret3
      exact HP.out n 0 _ h1 HR.out
    · have h2' : ¬ (n : Int) ≤ (lim : Int) := by omega
      have hlt : lim < js.length := by omega
      have hlt' : (lim : Int) < (js.length : Int) := by omega
      have hsl := fun w' : World => slice_bytes_to A1 js.length c1 lim (by omega) w'
      have HR := Lib.hid (HR2.out (by omega) hlt)
      clear HR1 HR2 HR3
      go_wp2_with fail
      go_quiet (fail)
      go_wp2_with fail
      go_ret3
      exact HP.out lim 3 _ (by omega) HR.out
  · have h1' : ¬ (n : Int) ≤ (js.length : Int) := by omega
    by_cases hlt : lim < js.length
    · have hlt' : (lim : Int) < (js.length : Int) := by omega
      have hsl := fun w' : World => slice_bytes_to A1 js.length c1 lim (by omega) w'
      have HR := Lib.hid (HR2.out (by omega) hlt)
      clear HR1 HR2 HR3
      go_wp2_with fail
      go_quiet (fail)
      go_wp2_with fail
      go_ret3
      exact HP.out lim 3 _ (by omega) HR.out
    · have hlt' : ¬ (lim : Int) < (js.length : Int) := by omega
      have HR := Lib.hid (HR3.out (by omega) hlt)
      have HC2 := Lib.hid (C2 w1 HB1.out)
      clear HR1 HR2 HR3 HP C1 C2
      go_wp2_with fail
      refine HC2.out.out.mono ?_
      rintro e w2 ⟨rfl, hb2⟩
      have HPP : Hid (Post3 R w (.returned (.tuple #[.int .i64 js.length, .int .i64 (lastErr st), .slice A1 js.length c1])) w2) := Lib.hid (by
        rw [HR.out]
        exact ⟨A1, c1, rfl, hc1, (HBY.out.mono (S' := fun j => w.heap.size ≤ j ∧ j < w1.heap.size) fun k hk h => ⟨h, hk⟩).move hb2.size (fun k _ hk => ⟨hk.1, hb2.block k hk.2⟩), HB1.out.trans (hb2.mono HB1.out.size)⟩)
      clear HR HC2 hb2 HBY
      generalize lastErr st = L at *
      go_wp2_with fail
      go_ret3
      exact HPP.out

end Go.Proofs.YtmhhblfolfojbaaDoor
