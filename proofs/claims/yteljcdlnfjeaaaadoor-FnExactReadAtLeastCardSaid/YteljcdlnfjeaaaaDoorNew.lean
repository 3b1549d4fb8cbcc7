/- newReader: a reader of its own memory over the steps of a source. -/
import Derived.Test.YteljcdlnfjeaaaaDoorNewP
import Derived.Test.YteljcdlnfjeaaaaDoorLate
import Derived.Deep.RegionWith
import Derived.Deep.LoopGhost
set_option linter.unusedVariables false
set_option linter.unusedSimpArgs false
namespace Go.Proofs.YteljcdlnfjeaaaaDoor
open Go.RowKit

set_option maxHeartbeats 1000000 in
set_option maxRecDepth 100000 in
theorem newReader_any {S : Nat → Prop} {w : World} {A : Option Addr} {st : List (List Int × Int)} (c : Nat) (h : RecsAt S w A st) (hn : st.length * 32 ≤ 140737488355328) (hd : ∀ i, i < st.length → (dat st i).length ≤ 140737488355328) :
    Calls Tryd.prog 31 #[.agg #[.slice A st.length c]] w (NewPost st w) := by
  obtain ⟨i0, hi0, hz0, hz1, hz2⟩ := info_parts infoU8
  obtain ⟨i1, hi1, hy0, hy1, hy2⟩ := info_parts infoStep
  have H := Lib.hid (h.mono (S' := (· < w.heap.size)) fun k hk _ => hk)
  have HD := Lib.hid hd
  clear h hd
  generalize hlen : st.length = len at *
  have HL := Lib.hid hlen
  clear hlen
  go_enter Tryd.func31, Tryd.ntmps31
  go_wp2
  go_loopg [11] len (fun f i wr => ∃ k : Nat, k ≤ len ∧ f = len - k ∧ i = .int .i64 k ∧ NewInv st w k wr)
  case atStart =>
    refine ⟨0, Nat.zero_le _, by omega, rfl, ((Below.refl _ _).alloc (Nat.le_refl _) _).alloc (by simp) _, by simp, none, 0, [], ?_, World.ownsRow_nil _ _ _ _, fun i hi => by simp at hi⟩
    have := Blk.new (w.alloc (.cells #[.slice A len c] 25)) 85 #[.slice none 0 0, .int .i64 1]
    simpa using this
  case round =>
    obtain ⟨k, hk, rfl, rfl, hinv⟩ := hrel
    obtain ⟨hbel, hsz2, A', c', xs, hblk, hown, hcells⟩ := hinv
    by_cases hlt : k < len
    · obtain ⟨ab, aoff, rfl, _, _, hc⟩ := H.out.below hbel (by rw [HL.out]; omega)
      obtain ⟨Ai, ci, g1, g2, g3, g4⟩ := hc k (by rw [HL.out]; omega)
      clear hc
      have hdl := HD.out k hlt
      go_wp2_with fail
      generalize hd' : dat st k = d at *
      generalize he' : err st k = x at *
      have HD' := Lib.hid hd'
      have HE' := Lib.hid he'
      clear hd' he'
      generalize hwx : wr.alloc (Obj.cells #[Value.slice Ai d.length ci, Value.int IntKind.i64 x] 50) = wx
      have hxs : wx.heap.size = wr.heap.size + 1 := by rw [← hwx]; simp
      have k0 : wx.cell? ⟨w.heap.size + 1, 0, none⟩ = some (.slice A' k c') := by
        rw [← hwx, (hblk.alloc _).cell]; simp
      have k1 : wx.cell? ⟨wr.heap.size, 0, none⟩ = some (.slice Ai d.length ci) := by
        rw [← hwx, (Blk.new _ _ _).cell]; simp
      have k2 : wx.cell? ⟨wr.heap.size, 1, none⟩ = some (.int .i64 x) := by
        rw [← hwx, (Blk.new _ _ _).cell]; simp
      have O1 : ((wx.alloc (.cells #[] 5)).drew).ownsRow (w.heap.size + 2) 5 1 (.slice (some ⟨wx.heap.size, 0, none⟩) 0 0) 0 [] :=
        own_drew (own_empty wx (w.heap.size + 2) 5 1 (by omega))
      have hwB : w.heap.size + 2 ≤ wx.heap.size := by omega
      have B1 : BytesAt (· < w.heap.size) ((wx.alloc (.cells #[] 5)).drew) Ai d := by
        rw [← hwx]
        exact ((g4.alloc _).alloc _).drew
      have HW := Lib.hid hwx
      have HXS := Lib.hid hxs
      have HO1 := Lib.hid O1
      have HB1 := Lib.hid B1
      have HBL := Lib.hid hblk
      have HOW := Lib.hid hown
      have HCE := Lib.hid hcells
      have HBE := Lib.hid hbel
      have hxs1 : wr.heap.size < wx.heap.size := by omega
      have hown2 : ∀ {A1 : Option Addr} {c1 : Nat} {w1 : World}, Appended (w.heap.size + 2) 5 1 A1 d.length c1 (bytesV d) (Value.slice (some ⟨wx.heap.size, 0, none⟩) 0 0).ownBlock ((wx.alloc (.cells #[] 5)).drew) w1 → w1.ownsRow (w.heap.size + 2) 50 2 (.slice A' k c') k xs := by
        intro A1 c1 w1 hap
        refine (own_drew (World.ownsRow.alloc (by rw [← hwx]; exact hown.alloc _) _)).kept hap.grown ?_
        cases ho : (Value.slice A' k c').ownBlock with
        | none => exact .inl rfl
        | some gg =>
          have := own_block_lt hown ho
          refine .inr ?_
          simp [Value.ownBlock]
          omega
      have l0 : ∀ o, (wx.alloc o).cell? ⟨w.heap.size + 1, 0, none⟩ = some (.slice A' k c') := fun o => (World.cell?_alloc_lt wx _ _ (by simp; omega)).trans k0
      have l1 : ∀ o, (wx.alloc o).cell? ⟨wr.heap.size, 0, none⟩ = some (.slice Ai d.length ci) := fun o => (World.cell?_alloc_lt wx _ _ (by simp; omega)).trans k1
      have l2 : ∀ o, (wx.alloc o).cell? ⟨wr.heap.size, 1, none⟩ = some (.int .i64 x) := fun o => (World.cell?_alloc_lt wx _ _ (by simp; omega)).trans k2
      have HNE := Lib.hid (fun (j : Nat) (hj : j < w.heap.size + 2) => show some j ≠ (Value.slice A' k c').ownBlock from fun e => by have := (own_block_lt hown e.symm).1; omega)
      have HNX := Lib.hid (fun (j : Nat) (hj : wr.heap.size ≤ j) => show some j ≠ (Value.slice A' k c').ownBlock from fun e => by have := (own_block_lt hown e.symm).2; omega)
      have hfro : ∀ {A1 A2 : Option Addr} {c1 c2 : Nat} {w1 w2 : World}, Appended (w.heap.size + 2) 5 1 A1 d.length c1 (bytesV d) (Value.slice (some ⟨wx.heap.size, 0, none⟩) 0 0).ownBlock ((wx.alloc (.cells #[] 5)).drew) w1 →
          Appended (w.heap.size + 2) 50 2 A2 (k + 1) c2 (xs ++ [.slice A1 d.length c1, .int .i64 x]) (Value.slice A' k c').ownBlock (w1.alloc (.cells #[.slice A1 d.length c1, .int .i64 x] 50)) w2 → w2.frozen? ⟨w.heap.size + 1, 0, none⟩ = false := by
        intro A1 A2 c1 c2 w1 w2 hap1 hap2
        have b0 : Blk wx (w.heap.size + 1) 85 #[.slice A' k c', .int .i64 1] := by rw [← hwx]; exact hblk.alloc _
        have b1 := Blk.grown (b0.alloc (.cells #[] 5)).drew hap1.grown (by simp [Value.ownBlock]; omega)
        exact (Blk.grown (b1.alloc _) hap2.grown (HNE.out (w.heap.size + 1) (by omega))).frozen 0
      clear hwx O1 B1 hblk hown hcells hbel g1 g2 g4 hxs
      have hS0 : wx.drew.cell? ⟨w.heap.size + 1, 0, none⟩ = some (.slice A' k c') ∧ wx.drew.cell? ⟨wr.heap.size, 0, none⟩ = some (.slice Ai d.length ci) ∧ wx.drew.cell? ⟨wr.heap.size, 1, none⟩ = some (.int .i64 x) := ⟨k0, k1, k2⟩
      refine wp_region_R (S := fun w' => w'.cell? ⟨w.heap.size + 1, 0, none⟩ = some (.slice A' k c') ∧ w'.cell? ⟨wr.heap.size, 0, none⟩ = some (.slice Ai d.length ci) ∧ w'.cell? ⟨wr.heap.size, 1, none⟩ = some (.int .i64 x)) (late := 16) (by kernel_rfl) ?_
      refine wpAnyR_take (i := 0) (v := ?_) rfl (by kernel_rfl) (by kernel_rfl) (by kernel_rfl) (by kernel_rfl) (fun _ _ _ h => h) hS0 (Or.inl ⟨by rfl, fun w hSw => ?_⟩) ?_
      rotate_left
      · (dsimp only at hSw; go_simp; try (with_reducible rfl))
      simp only [Act.put, List.setIfInBounds_toArray, List.set_cons_zero, List.set_cons_succ]
      refine wpAnyR_take (i := 1) (v := ?_) rfl (by kernel_rfl) (by kernel_rfl) (by kernel_rfl) (by kernel_rfl) (fun _ _ _ h => h) hS0 (Or.inl ⟨by rfl, fun w hSw => ?_⟩) ?_
      rotate_left
      · (dsimp only at hSw; go_simp; try (with_reducible rfl))
      simp only [Act.put, List.setIfInBounds_toArray, List.set_cons_zero, List.set_cons_succ]
      refine wpAnyR_take (i := 2) (v := ?_) rfl (by kernel_rfl) (by kernel_rfl) (by kernel_rfl) (by kernel_rfl) (fun _ _ _ h => h) hS0 (Or.inl ⟨by rfl, fun w hSw => ?_⟩) ?_
      rotate_left
      · (dsimp only at hSw; go_simp; try (with_reducible rfl))
      simp only [Act.put, List.setIfInBounds_toArray, List.set_cons_zero, List.set_cons_succ]
      refine wpAnyR_take (i := 3) (v := ?_) rfl (by kernel_rfl) (by kernel_rfl) (by kernel_rfl) (by kernel_rfl) (fun _ _ _ h => h) hS0 (Or.inl ⟨by rfl, fun w hSw => ?_⟩) ?_
      rotate_left
      · (dsimp only at hSw; go_simp; try (with_reducible rfl))
      simp only [Act.put, List.setIfInBounds_toArray, List.set_cons_zero, List.set_cons_succ]
      refine wpAnyR_take (i := 4) (v := ?_) rfl (by kernel_rfl) (by kernel_rfl) (by kernel_rfl) (by kernel_rfl) (fun _ _ _ h => h) hS0 (Or.inl ⟨by rfl, fun w hSw => ?_⟩) ?_
      rotate_left
      · (dsimp only at hSw; go_simp; try (with_reducible rfl))
      simp only [Act.put, List.setIfInBounds_toArray, List.set_cons_zero, List.set_cons_succ]
      refine wpAnyR_take (i := 6) (v := ?_) rfl (by kernel_rfl) (by kernel_rfl) (by kernel_rfl) (by kernel_rfl) (fun _ _ _ h => h) hS0 (Or.inl ⟨by rfl, fun w hSw => ?_⟩) ?_
      rotate_left
      · (dsimp only at hSw; go_simp; try (with_reducible rfl))
      simp only [Act.put, List.setIfInBounds_toArray, List.set_cons_zero, List.set_cons_succ]
      refine wpAnyR_take (i := 7) (v := ?_) rfl (by kernel_rfl) (by kernel_rfl) (by kernel_rfl) (by kernel_rfl) (fun _ _ _ h => h) hS0 (Or.inl ⟨by rfl, fun w hSw => ?_⟩) ?_
      rotate_left
      · (dsimp only at hSw; go_simp; try (with_reducible rfl))
      simp only [Act.put, List.setIfInBounds_toArray, List.set_cons_zero, List.set_cons_succ]
      refine wpAnyR_take (i := 9) (v := ?_) rfl (by kernel_rfl) (by kernel_rfl) (by kernel_rfl) (by kernel_rfl) (fun _ _ _ h => h) hS0 (Or.inl ⟨by rfl, fun w hSw => ?_⟩) ?_
      rotate_left
      · (dsimp only at hSw; go_simp; try (with_reducible rfl))
      simp only [Act.put, List.setIfInBounds_toArray, List.set_cons_zero, List.set_cons_succ]
      refine wpAnyR_take (i := 10) (v := ?_) rfl (by kernel_rfl) (by kernel_rfl) (by kernel_rfl) (by kernel_rfl) (fun _ _ _ h => h) hS0 (Or.inl ⟨by rfl, fun w hSw => ?_⟩) ?_
      rotate_left
      · (dsimp only at hSw; go_simp; try (with_reducible rfl))
      simp only [Act.put, List.setIfInBounds_toArray, List.set_cons_zero, List.set_cons_succ]
      refine wpAnyR_one (k := 5) rfl (by kernel_rfl) (fun K hK => ?_)
      go_simp
      refine hK.out _ _ (fun hne => ⟨l0 _, l1 _, l2 _⟩) ?_
      clear hK K
      try simp only [Act.put, List.setIfInBounds_toArray, List.set_cons_zero, List.set_cons_succ]
      refine wpAnyR_one (k := 8) rfl (by kernel_rfl) (fun K hK => ?_)
      refine step_append_new _ (by rfl) (.tmp 20) (.tmp 22) 22 (by rfl) (w.heap.size + 2) 5 i0 _ 1 1 Tryd.underlying22 hi0 hz0 hz1 hz2 rfl (by omega) _ (by rfl) HO1.out Ai d.length ci (bytesV d) (by rfl) (by rw [bytesV_length]; omega) HB1.out.news (bytesV_one d) (by unfold maxLen; omega) (by omega) (by simp; omega) ?_
      intro A1 c1 w1 hap1
      have q1 := (hap1.cell (a := ⟨w.heap.size + 1, 0, none⟩) (by simp; omega) (by simp [Value.ownBlock]; omega)).trans ((World.cell?_alloc_lt wx _ _ (by simp; omega)).trans k0)
      have q2 := (hap1.cell (a := ⟨wr.heap.size, 0, none⟩) (by simp; omega) (by simp [Value.ownBlock]; omega)).trans ((World.cell?_alloc_lt wx _ _ (by simp; omega)).trans k1)
      have q3 := (hap1.cell (a := ⟨wr.heap.size, 1, none⟩) (by simp; omega) (by simp [Value.ownBlock]; omega)).trans ((World.cell?_alloc_lt wx _ _ (by simp; omega)).trans k2)
      have hs1 := hap1.sizeLe
      simp at hs1
      have HO2 := Lib.hid (hown2 hap1)
      refine hK.out _ _ (fun hne => ⟨q1, q2, q3⟩) ?_
      clear hK K
      try simp only [Act.put, List.setIfInBounds_toArray, List.set_cons_zero, List.set_cons_succ]
      refine wpAnyR_one (k := 11) rfl (by kernel_rfl) (fun K hK => ?_)
      go_simp
      refine hK.out _ _ (fun hne => ⟨q1, q2, q3⟩) ?_
      clear hK K
      try simp only [Act.put, List.setIfInBounds_toArray, List.set_cons_zero, List.set_cons_succ]
      refine wpAnyR_one (k := 12) rfl (by kernel_rfl) (fun K hK => ?_)
      go_simp
      refine hK.out _ _ (fun hne => ⟨(World.cell?_alloc_lt w1 _ _ (by simp; omega)).trans q1, (World.cell?_alloc_lt w1 _ _ (by simp; omega)).trans q2, (World.cell?_alloc_lt w1 _ _ (by simp; omega)).trans q3⟩) ?_
      clear hK K
      try simp only [Act.put, List.setIfInBounds_toArray, List.set_cons_zero, List.set_cons_succ]
      refine wpAnyR_one (k := 13) rfl (by kernel_rfl) (fun K hK => ?_)
      refine step_append_gen _ (by rfl) (.tmp 19) (.tmp 27) 23 (by rfl) (w.heap.size + 2) 50 i1 _ 2 32 Tryd.underlying23 hi1 hy0 hy1 hy2 rfl (by omega) _ k xs (by rfl) (HO2.out.alloc _) (some ⟨w1.heap.size, 0, none⟩) 1 1 [.slice A1 d.length c1, .int .i64 x] (by rfl) (by rfl) ((Blk.new w1 50 #[.slice A1 d.length c1, .int .i64 x]).news 1) (by simp [Value.oneCell']) (by unfold maxLen; omega) (by omega) (by simp; omega) ?_
      intro A2 c2 w2 hap2
      have r1 := (hap2.cell (a := ⟨w.heap.size + 1, 0, none⟩) (by simp; omega) (HNE.out (w.heap.size + 1) (by omega))).trans ((World.cell?_alloc_lt w1 _ _ (by simp; omega)).trans q1)
      have r2 := (hap2.cell (a := ⟨wr.heap.size, 0, none⟩) (by simp; omega) (HNX.out wr.heap.size (by omega))).trans ((World.cell?_alloc_lt w1 _ _ (by simp; omega)).trans q2)
      have r3 := (hap2.cell (a := ⟨wr.heap.size, 1, none⟩) (by simp; omega) (HNX.out wr.heap.size (by omega))).trans ((World.cell?_alloc_lt w1 _ _ (by simp; omega)).trans q3)
      have r4 := hfro hap1 hap2
      refine hK.out _ _ (fun hne => ⟨r1, r2, r3⟩) ?_
      clear hK K
      try simp only [Act.put, List.setIfInBounds_toArray, List.set_cons_zero, List.set_cons_succ]
      refine wpAnyR_one (k := 14) rfl (by kernel_rfl) (fun K hK => ?_)
      go_simp
      refine hK.out _ _ (fun hne => ⟨r1, r2, r3⟩) ?_
      clear hK K
      try simp only [Act.put, List.setIfInBounds_toArray, List.set_cons_zero, List.set_cons_succ]
      refine wpAnyR_one (k := 15) rfl (by kernel_rfl) (fun K hK => ?_)
      go_simp
      refine hK.out _ _ (fun hne => ⟨r1, r2, r3⟩) ?_
      clear hK K
      try simp only [Act.put, List.setIfInBounds_toArray, List.set_cons_zero, List.set_cons_succ]
      refine wpAnyR_one (k := 16) rfl (by kernel_rfl) (fun K hK => ?_)
      go_simp
      refine hK.out _ _ (fun hne => absurd rfl hne) ?_
      clear hK K
      try simp only [Act.put, List.setIfInBounds_toArray, List.set_cons_zero, List.set_cons_succ]
      refine wpAnyR_done (by kernel_rfl) ?_ _
      have HA1 := Lib.hid hap1
      have HA2 := Lib.hid hap2
      clear hap1 hap2 hown2 hfro q1 q2 q3 r1 r2 r3 r4 l0 l1 l2 k0 k1 k2 hS0
      go_wp2_with fail
      go_roundg (len - (k + 1))
      case measure => omega
      case rel =>
        refine ⟨k + 1, by omega, rfl, by go_num, ?_⟩
        have e1 := HW.out
        subst e1
        refine new_step (o := .cells #[.slice Ai d.length ci, .int .i64 x] 50) (by rw [HL.out]; exact hlt) HD'.out HE'.out HBE.out hsz2 HBL.out HOW.out HCE.out ?_ HA2.out
        simpa [Value.ownBlock] using HA1.out
    · have hkl : k = len := by omega
      subst hkl
      have HI : Hid (NewInv st w k wr) := Lib.hid ⟨hbel, hsz2, A', c', xs, hblk, hown, hcells⟩
      clear hbel hblk hown hcells
      go_wp2_with fail
      go_ret
      have e := HL.out
      rw [← e] at HI
      exact new_done HI.out

end Go.Proofs.YteljcdlnfjeaaaaDoor
