/- spec.ReadAtLeast over a valid source. -/
import Derived.Test.YteljcdlnfjeaaaaDoorRal
set_option linter.unusedVariables false
set_option linter.unusedSimpArgs false
namespace Go.Proofs.YteljcdlnfjeaaaaDoor
open Go.RowKit

set_option maxHeartbeats 1000000 in
set_option maxRecDepth 100000 in
theorem specReadAtLeast_any {S : Nat → Prop} {w : World} {A : Option Addr} {st : List (List Int × Int)} (c : Nat) (h : RecsAt S w A st)
    (hn : st.length ≤ 281474976710656) (hd : ∀ i, i < st.length → (dat st i).length ≤ 140737488355328) (hv : Valid (lastErr st) st) (size least thn : Nat) (hs1 : size ≤ 1048576) (hs2 : thn ≤ 1048576) :
    Calls Tryd.prog 20 #[.agg #[.slice A st.length c], .int .i64 size, .int .i64 least, .int .i64 thn] w (Got2Post (atLeast (lastErr st) size least st).1 (atLeast (lastErr st) thn thn (atLeast (lastErr st) size least st).2).1 w) := by
  have hS := h.mono (S' := (· < w.heap.size)) fun k hk _ => hk
  have HSP : Hid (SpAt (· < w.heap.size) ((((w.alloc (.cells #[.slice A st.length c] 25)).alloc (.cells #[.slice none 0 0, .int .i64 0] 39)).alloc (.cells #[.slice none 0 0, .int .i64 0] 39)).alloc (.cells #[.slice A st.length c, .int .i64 0, .int .i64 0] 73)) (w.heap.size + 3) st (lastErr st)) := Lib.hid (by
    have := sp_new (w := ((w.alloc (.cells #[.slice A st.length c] 25)).alloc (.cells #[.slice none 0 0, .int .i64 0] 39)).alloc (.cells #[.slice none 0 0, .int .i64 0] 39)) (c := c) (((hS.alloc _).alloc _).alloc _) (fun j hj => by simp; omega) hn hd
    simpa using this)
  have HG1 : Hid (Blk ((((w.alloc (.cells #[.slice A st.length c] 25)).alloc (.cells #[.slice none 0 0, .int .i64 0] 39)).alloc (.cells #[.slice none 0 0, .int .i64 0] 39)).alloc (.cells #[.slice A st.length c, .int .i64 0, .int .i64 0] 73)) (w.heap.size + 1) 39 #[.slice none 0 0, .int .i64 0]) := Lib.hid (by
    have := ((Blk.new (w.alloc (.cells #[.slice A st.length c] 25)) 39 #[.slice none 0 0, .int .i64 0]).alloc (.cells #[.slice none 0 0, .int .i64 0] 39)).alloc (.cells #[.slice A st.length c, .int .i64 0, .int .i64 0] 73)
    simpa using this)
  have HG2 : Hid (Blk ((((w.alloc (.cells #[.slice A st.length c] 25)).alloc (.cells #[.slice none 0 0, .int .i64 0] 39)).alloc (.cells #[.slice none 0 0, .int .i64 0] 39)).alloc (.cells #[.slice A st.length c, .int .i64 0, .int .i64 0] 73)) (w.heap.size + 2) 39 #[.slice none 0 0, .int .i64 0]) := Lib.hid (by
    have := (Blk.new ((w.alloc (.cells #[.slice A st.length c] 25)).alloc (.cells #[.slice none 0 0, .int .i64 0] 39)) 39 #[.slice none 0 0, .int .i64 0]).alloc (.cells #[.slice A st.length c, .int .i64 0, .int .i64 0] 73)
    simpa using this)
  have C1 := Lib.hid (sAtLeast_gen (size := size) least HSP.out (fun j hj => by simp; omega) hv (by omega))
  have hv1 := atLeast_valid size least hv
  have HK0 : Hid (Kept (fun _ => False) w ((((w.alloc (.cells #[.slice A st.length c] 25)).alloc (.cells #[.slice none 0 0, .int .i64 0] 39)).alloc (.cells #[.slice none 0 0, .int .i64 0] 39)).alloc (.cells #[.slice A st.length c, .int .i64 0, .int .i64 0] 73))) := Lib.hid (((((Kept.refl _ w).alloc _).alloc _).alloc _).alloc _)
  clear h hd hS HSP
  generalize hL : lastErr st = L at *
  generalize hR1 : atLeast L size least st = R at *
  obtain ⟨⟨nd1, ne1⟩, ns⟩ := R
  simp only at *
  have HV1 := Lib.hid hv1
  clear hL hR1 hv hv1
  go_enter Tryd.func20, Tryd.ntmps20
  go_wp2_with fail
  generalize hw1 : (((w.alloc (.cells #[.slice A st.length c] 25)).alloc (.cells #[.slice none 0 0, .int .i64 0] 39)).alloc (.cells #[.slice none 0 0, .int .i64 0] 39)).alloc (.cells #[.slice A st.length c, .int .i64 0, .int .i64 0] 73) = w1 at *
  have hz1 : w1.heap.size = w.heap.size + 4 := by rw [← hw1]; simp
  clear hw1
  refine C1.out.mono ?_
  rintro e w2 ⟨A2, c2, rfl, hc2, hby2, hsp2, hk2⟩
  have hz2 := hk2.size
  have HBY2 := Lib.hid (hby2.alloc (.cells #[.slice A2 nd1.length c2, .int .i64 ne1] 39))
  generalize hwa : w2.alloc (.cells #[.slice A2 nd1.length c2, .int .i64 ne1] 39) = wa at *
  have hza : wa.heap.size = w2.heap.size + 1 := by rw [← hwa]; simp
  have hka : Kept (· = w.heap.size + 3) w1 wa := by rw [← hwa]; exact hk2.alloc _
  have hspa : SpAt (· < w.heap.size) wa (w.heap.size + 3) ns L := by rw [← hwa]; exact hsp2.kept ((Kept.refl (fun _ => False) _).alloc _) fun _ _ _ hf => hf
  have y1 : wa.cell? ⟨w2.heap.size, 0, none⟩ = some (.slice A2 nd1.length c2) := by rw [← hwa]; simp
  have y2 : wa.cell? ⟨w2.heap.size, 1, none⟩ = some (.int .i64 ne1) := by rw [← hwa]; simp
  have C2 := Lib.hid (sAtLeast_gen (size := thn) thn (hspa.kept ((Kept.refl (fun _ => False) wa).drew) fun _ _ _ hf => hf) (fun j hj => by show j < wa.heap.size; omega) HV1.out (by omega))
  have HKA := Lib.hid hka
  clear hby2 hsp2 hk2 hka hspa C1
  generalize hR2 : atLeast L thn thn ns = R at *
  obtain ⟨⟨nd2, ne2⟩, ns2⟩ := R
  simp only at *
  clear hR2
  go_wp2_with fail
  clear hwa
  go_region_held3 (fun w' => w'.cell? ⟨w2.heap.size, 0, none⟩ = some (.slice A2 nd1.length c2) ∧ w'.cell? ⟨w2.heap.size, 1, none⟩ = some (.int .i64 ne1))
    (first
      | go_keep
      | exact ⟨v1, v2⟩
      | exact ⟨x1 _ _, x2 _ _⟩
      | exact ⟨x3 _ _ _ _, x4 _ _ _ _⟩)
    (first
      | (go_at_call 35; refine C2.out.mono ?_; rintro e w3 ⟨A3, c3, rfl, hc3, hby3, hsp3, hk3⟩; have hz3 : wa.heap.size ≤ w3.heap.size := hk3.size
         have v1 := (hk3.cell (p := ⟨w2.heap.size, 0, none⟩) (show w2.heap.size < wa.heap.size by omega) (show ¬ w2.heap.size = w.heap.size + 3 by omega)).trans y1
         have v2 := (hk3.cell (p := ⟨w2.heap.size, 1, none⟩) (show w2.heap.size < wa.heap.size by omega) (show ¬ w2.heap.size = w.heap.size + 3 by omega)).trans y2
         have K13 : Kept (· = w.heap.size + 3) w1 w3 := HKA.out.drew.trans hk3 fun _ _ e => e
         have Q1 := HG1.out.kept K13 (show ¬ w.heap.size + 1 = w.heap.size + 3 by omega)
         have Q2 := HG2.out.kept K13 (show ¬ w.heap.size + 2 = w.heap.size + 3 by omega)
         have q1 := Q1.cell 0
         have q2 := Q1.cell 1
         have q3 := Q1.frozen 0
         have q4 := Q1.frozen 1
         have q5 := Q2.cell 0
         have q6 := Q2.cell 1
         have q7 := Q2.frozen 0
         have q8 := Q2.frozen 1
         simp at q1 q2 q5 q6
         have hkx := fun u1 u2 => ((Kept.refl (· = w.heap.size + 1) w3).setCell (p := ⟨w.heap.size + 1, 0, none⟩) (fun _ => rfl) u1).setCell (p := ⟨w.heap.size + 1, 1, none⟩) (fun _ => rfl) u2
         have x1 := fun u1 u2 => ((hkx u1 u2).cell (p := ⟨w2.heap.size, 0, none⟩) (show w2.heap.size < w3.heap.size by omega) (show ¬ w2.heap.size = w.heap.size + 1 by omega)).trans v1
         have x2 := fun u1 u2 => ((hkx u1 u2).cell (p := ⟨w2.heap.size, 1, none⟩) (show w2.heap.size < w3.heap.size by omega) (show ¬ w2.heap.size = w.heap.size + 1 by omega)).trans v2
         have hky := fun u1 u2 u3 u4 => ((((Kept.refl (fun k => k = w.heap.size + 1 ∨ k = w.heap.size + 2) w3).setCell (p := ⟨w.heap.size + 1, 0, none⟩) (fun _ => .inl rfl) u1).setCell (p := ⟨w.heap.size + 1, 1, none⟩) (fun _ => .inl rfl) u2).setCell (p := ⟨w.heap.size + 2, 0, none⟩) (fun _ => .inr rfl) u3).setCell (p := ⟨w.heap.size + 2, 1, none⟩) (fun _ => .inr rfl) u4
         have x3 := fun u1 u2 u3 u4 => ((hky u1 u2 u3 u4).cell (p := ⟨w2.heap.size, 0, none⟩) (show w2.heap.size < w3.heap.size by omega) (show ¬ (w2.heap.size = w.heap.size + 1 ∨ w2.heap.size = w.heap.size + 2) by omega)).trans v1
         have x4 := fun u1 u2 u3 u4 => ((hky u1 u2 u3 u4).cell (p := ⟨w2.heap.size, 1, none⟩) (show w2.heap.size < w3.heap.size by omega) (show ¬ (w2.heap.size = w.heap.size + 1 ∨ w2.heap.size = w.heap.size + 2) by omega)).trans v2
         have HP : Hid (∀ u1 u2 u3 u4 : Value, Got2Post (nd1, ne1) (nd2, ne2) w (.returned (.tuple #[.agg #[.slice A2 nd1.length c2, .int .i64 ne1], .agg #[.slice A3 nd2.length c3, .int .i64 ne2]])) ((((w3.setCell ⟨w.heap.size + 1, 0, none⟩ u1).setCell ⟨w.heap.size + 1, 1, none⟩ u2).setCell ⟨w.heap.size + 2, 0, none⟩ u3).setCell ⟨w.heap.size + 2, 1, none⟩ u4)) := Lib.hid fun u1 u2 u3 u4 => by
           have hk := hky u1 u2 u3 u4
           refine ⟨A2, c2, A3, c3, rfl, hc2, hc3, ?_, ?_, (((HK0.out.mono (D' := fun k => w.heap.size ≤ k) fun _ _ hf => hf.elim).trans K13 fun i hi e => by omega).trans hk fun i hi hD => by omega).below (Nat.le_refl _) fun i hi hD => by omega⟩
           · exact ((((HBY2.out.mono (S' := fun j => w1.heap.size ≤ j ∧ j < wa.heap.size) fun k hk h => ⟨h, hk⟩).drew).kept hk3 (fun k _ hS e => by omega)).kept hk (fun k _ hS hD => by omega)).mono fun k _ hS => by omega
           · exact (hby3.kept hk (fun k _ hS hD => by have hS' : wa.heap.size ≤ k := hS; omega)).mono fun k _ hS => by have hS' : wa.heap.size ≤ k := hS; omega
         clear hkx hky Q1 Q2 K13 hk3 hby3 hsp3))
  all_goals
    clear v1 v2 x1 x2 x3 x4 y1 y2
    go_wp2_with fail
    refine bodyPost_ret (v := .tuple #[.agg #[.slice A2 nd1.length c2, .int .i64 ne1], .agg #[.slice A3 nd2.length c3, .int .i64 ne2]]) ?_ rfl ?_
    · simp [results, Tryd.results20, go_sem, q1, q2, q5, q6]
    · exact HP.out _ _ _ _

end Go.Proofs.YteljcdlnfjeaaaaDoor
