/- The reference's own draws: a source. -/
import Derived.Test.YteljcdlnfjeaaaaDoorSome
import Derived.Test.YteljcdlnfjeaaaaDoorRowAt
import Derived.Test.YteljcdlnfjeaaaaDoorLate
set_option linter.unusedVariables false
set_option linter.unusedSimpArgs false
namespace Go.Proofs.YteljcdlnfjeaaaaDoor
open Go.RowKit

/-- a source, its row and its bytes in memory of the call's own -/
def SourcePost (S : Nat → Prop) (rb q : Nat) (w : World) (e : Ending) (w' : World) : Prop :=
  ∃ (l : List (List Int × Int)) (A : Option Addr) (c : Nat) (xs : List Value), e = .returned (.agg #[.slice A l.length c]) ∧ l.length ≤ 6 ∧ (∀ i, i < l.length → (dat l i).length ≤ 700) ∧
    RowAt 50 w.heap.size (fun _ => False) w' A l.length c l xs ∧ RdAt S w' rb (q + 4300) ∧ Kept (· = rb) w w'

/-- what holds at the head of a round of source, and behind it -/
def SrcInv (S : Nat → Prop) (rb q : Nat) (w : World) (k : Nat) (A' : Option Addr) (c' : Nat) (wr : World) : Prop :=
  ∃ (l : List (List Int × Int)) (xs : List Value), RowAt 50 (w.heap.size + 1) (· = w.heap.size + 2) wr A' k c' l xs ∧ Blk wr (w.heap.size + 2) 25 #[.slice A' k c'] ∧
    Blk wr w.heap.size 25 #[.slice none 0 0] ∧ RdAt S wr rb q ∧ Kept (· = rb) w wr ∧ ∀ i, i < l.length → (dat l i).length ≤ 700

theorem src_done {S : Nat → Prop} {rb q : Nat} {w wr : World} {k : Nat} {A' : Option Addr} {c' : Nat} {q0 : Nat} (h : SrcInv S rb q w k A' c' wr) (hk : k ≤ 6) (hq : q ≤ q0 + 4300) (hrb : rb < w.heap.size) (hS : ∀ j, S j → j < w.heap.size) :
    SourcePost S rb q0 w (.returned (.agg #[.slice A' k c'])) (wr.setCell ⟨w.heap.size, 0, none⟩ (.slice A' k c')) := by
  obtain ⟨l, xs, h1, h2, h3, h4, h5, h6⟩ := h
  obtain rfl := h1.len
  refine ⟨l, A', c', xs, rfl, hk, h6, ?_, ?_, h5.setCell (p := ⟨w.heap.size, 0, none⟩) (fun hh => absurd hh (by simp)) _⟩
  · have h7 : RowAt 50 (w.heap.size + 1) (fun _ => False) wr A' l.length c' l xs := h1.mono (Nat.le_refl _) fun _ _ _ hf => hf
    refine (h7.kept ((Kept.refl (· = w.heap.size) _).setCell (p := ⟨w.heap.size, 0, none⟩) (fun _ => rfl) _) fun j hj _ _ e => by omega).mono (by omega) fun _ _ _ hf => hf
  · refine (h4.mono hq).kept ((Kept.refl (· = w.heap.size) _).setCell (p := ⟨w.heap.size, 0, none⟩) (fun _ => rfl) _) fun j hj hS' e => ?_
    rcases hS' with h | h
    · have := hS j h; omega
    · omega

set_option maxHeartbeats 1000000 in
set_option maxRecDepth 100000 in
theorem source_any {S : Nat → Prop} {w : World} {rb q : Nat} (h : RdAt S w rb q) (hS : ∀ j, S j → j < w.heap.size) (hq : q ≤ 800000000) :
    Calls Tryd.prog 28 #[.pointer (some ⟨rb, 0, none⟩)] w (SourcePost S rb q w) := by
  obtain ⟨i1, hi1, hy0, hy1, hy2⟩ := info_parts infoStep
  have hlt := h.lt
  have HSS := Lib.hid hS
  have C := Lib.hid (one_new (((h.alloc (.cells #[.slice none 0 0] 25)).alloc (.cells #[] 50)).alloc (.cells #[.slice (some ⟨w.heap.size + 1, 0, none⟩) 0 0] 25)) (by omega) [2, 3, 1, 4, 0, 6] 6 6 3 rfl (by omega) (by omega) #[.int .i64 2, .int .i64 3, .int .i64 1, .int .i64 4, .int .i64 0, .int .i64 6] rfl (w.heap.size + 3) (by simp))
  have CS : ∀ (wr : World) (k : Nat), k ≤ 6 → w.heap.size ≤ wr.heap.size → RdAt S wr rb (q + 1 + 702 * k) → Calls Tryd.prog 38 #[.pointer (some ⟨rb, 0, none⟩)] wr (SomePost S rb (q + 1 + 702 * k) wr) := fun wr n hn hw h => some_any h (fun j hj => Nat.lt_of_lt_of_le (hS j hj) hw) (by omega)
  have HCS := Lib.hid CS
  clear h hS CS
  go_enter Tryd.func28, Tryd.ntmps28
  go_wp2_with fail
  refine C.out.mono ?_
  rintro e w2 ⟨z, hz, rfl, hr2, hk2⟩
  have hz' : ∃ m : Nat, z = (m : Int) ∧ m ≤ 6 := by
    simp at hz
    rcases hz with rfl | rfl | rfl | rfl | rfl | rfl
    · exact ⟨2, rfl, by omega⟩
    · exact ⟨3, rfl, by omega⟩
    · exact ⟨1, rfl, by omega⟩
    · exact ⟨4, rfl, by omega⟩
    · exact ⟨0, rfl, by omega⟩
    · exact ⟨6, rfl, by omega⟩
  obtain ⟨m, rfl, hm⟩ := hz'
  have I0 : Hid (SrcInv S rb (q + 1 + 702 * 0) w 0 (some ⟨w.heap.size + 1, 0, none⟩) 0 w2) := Lib.hid (by
    refine ⟨[], [], ?_, ?_, ?_, hr2, ?_, fun i hi => by simp at hi⟩
    · have := RowAt.empty 50 (w.alloc (.cells #[.slice none 0 0] 25)) (w.heap.size + 1) (· = w.heap.size + 2) (by simp) (by simp)
      simp at this
      exact (this.alloc _).kept hk2 fun j hj _ _ e => by omega
    · have := Blk.new ((w.alloc (.cells #[.slice none 0 0] 25)).alloc (.cells #[] 50)) 25 #[.slice (some ⟨w.heap.size + 1, 0, none⟩) 0 0]
      simp at this
      exact this.kept hk2 (by omega)
    · exact (((Blk.new w 25 #[.slice none 0 0]).alloc _).alloc _).kept hk2 (by omega)
    · exact ((((Kept.refl (· = rb) w).alloc _).alloc _).alloc _).trans hk2 fun _ _ e => e)
  clear hz hr2 hk2 C
  go_wp2_with fail
  go_loopg [4] m (fun f i wr => ∃ (r k : Nat) (A' : Option Addr) (c' : Nat), r = f ∧ i = .int .i64 r ∧ k + r ≤ 6 ∧ SrcInv S rb (q + 1 + 702 * k) w k A' c' wr)
  case atStart => exact ⟨m, 0, _, 0, rfl, rfl, by omega, I0.out⟩
  case round =>
    obtain ⟨r, k, A', c', rfl, rfl, hkr, l, xs, hrow, hbs, hbr, hrd, hkept, hdl⟩ := hrel
    have hszr := hbs.lt
    have c0 := hbs.cell 0
    simp at c0
    have C5 := Lib.hid (HCS.out wr.drew k (by omega) (by show w.heap.size ≤ wr.heap.size; omega) hrd.drew)
    have HRW := Lib.hid hrow
    have HBS := Lib.hid hbs
    have HBR := Lib.hid hbr
    have HRD := Lib.hid hrd
    have HKE := Lib.hid hkept
    have HDL := Lib.hid hdl
    clear hrow hbs hbr hrd hkept hdl
    by_cases hr0 : 0 < r
    · have hr0' : (0 : Int) < (r : Int) := by omega
      go_wp2_with fail
      have hS0 : wr.drew.cell? ⟨w.heap.size + 2, 0, none⟩ = some (.slice A' k c') := c0
      refine wp_region_R (S := fun w' => w'.cell? ⟨w.heap.size + 2, 0, none⟩ = some (.slice A' k c')) (late := 8) (by kernel_rfl) ?_
      refine wpAnyR_take (i := 0) (v := ?_) rfl (by kernel_rfl) (by kernel_rfl) (by kernel_rfl) (by kernel_rfl) (fun _ _ _ h => h) hS0 (Or.inl ⟨by rfl, fun w hSw => ?_⟩) ?_
      rotate_left
      · (dsimp only at hSw; go_simp; try (with_reducible rfl))
      simp only [Act.put, List.setIfInBounds_toArray, List.set_cons_zero, List.set_cons_succ]
      refine wpAnyR_take (i := 1) (v := ?_) rfl (by kernel_rfl) (by kernel_rfl) (by kernel_rfl) (by kernel_rfl) (fun _ _ _ h => h) hS0 (Or.inl ⟨by rfl, fun w hSw => ?_⟩) ?_
      rotate_left
      · (dsimp only at hSw; go_simp; try (with_reducible rfl))
      simp only [Act.put, List.setIfInBounds_toArray, List.set_cons_zero, List.set_cons_succ]
      refine wpAnyR_take (i := 2) (v := ?_) rfl (by kernel_rfl) (by kernel_rfl) (by kernel_rfl) (by kernel_rfl) (fun _ _ _ h => h) hS0 (Or.inl ⟨by rfl, fun w hSw => ?_⟩) ?_
      rotate_left
      · (dsimp only at hSw; go_simp; try (with_reducible rfl))
      simp only [Act.put, List.setIfInBounds_toArray, List.set_cons_zero, List.set_cons_succ]
      refine wpAnyR_one (k := 3) rfl (by kernel_rfl) (fun K hK => ?_)
      go_simp
      go_at_call 38
      refine C5.out.mono ?_
      rintro e w5 ⟨d, Ad, cd, rfl, hd7, ho5, hr5, hk5⟩
      have q1 := (hk5.cell (p := ⟨w.heap.size + 2, 0, none⟩) (by show w.heap.size + 2 < wr.heap.size; omega) (by simp; omega)).trans hS0
      have HD5 := Lib.hid ho5
      have hw5 := hk5.size
      simp at hw5
      have HRW5 : Hid (RowAt 50 (w.heap.size + 1) (· = w.heap.size + 2) w5 A' k c' l xs) := Lib.hid (HRW.out.drew.kept hk5 fun j hj _ _ e => by omega)
      have HB5 : Hid (Blk w5 (w.heap.size + 2) 25 #[.slice A' k c']) := Lib.hid (HBS.out.drew.kept hk5 (by omega))
      have HX5 : Hid (Blk w5 w.heap.size 25 #[.slice none 0 0]) := Lib.hid (HBR.out.drew.kept hk5 (by omega))
      have HR5 := Lib.hid hr5
      have HK5 : Hid (Kept (· = rb) w w5) := Lib.hid (HKE.out.drew.trans hk5 fun _ _ e => e)
      clear ho5 hr5 hk5
      refine hK.out _ _ (fun hne => q1) ?_
      clear hK K
      try simp only [Act.put, List.setIfInBounds_toArray, List.set_cons_zero, List.set_cons_succ]
      refine wpAnyR_one (k := 4) rfl (by kernel_rfl) (fun K hK => ?_)
      go_simp
      refine hK.out _ _ (fun hne => q1) ?_
      clear hK K
      try simp only [Act.put, List.setIfInBounds_toArray, List.set_cons_zero, List.set_cons_succ]
      refine wpAnyR_one (k := 5) rfl (by kernel_rfl) (fun K hK => ?_)
      go_simp
      have q2 := fun o => (World.cell?_alloc_lt w5 (a := ⟨w.heap.size + 2, 0, none⟩) o (by simp; omega)).trans q1
      refine hK.out _ _ (fun hne => q2 _) ?_
      clear hK K
      try simp only [Act.put, List.setIfInBounds_toArray, List.set_cons_zero, List.set_cons_succ]
      refine wpAnyR_one (k := 6) rfl (by kernel_rfl) (fun K hK => ?_)
      refine step_append_gen _ (by rfl) (.tmp 15) (.tmp 19) 23 (by rfl) (w.heap.size + 1) 50 i1 _ 2 32 Tryd.underlying23 hi1 hy0 hy1 hy2 rfl (by omega) _ k xs (by rfl) (HRW5.out.own.alloc _) (some ⟨w5.heap.size, 0, none⟩) 1 1 [.slice Ad d.length cd, .int .i64 0] (by rfl) (by rfl) ((Blk.new w5 50 #[.slice Ad d.length cd, .int .i64 0]).news 1) (by simp [Value.oneCell']) (by unfold maxLen; omega) (by omega) (by simp; omega) ?_
      intro A2 c2 w6 hap
      have hne2 : some (w.heap.size + 2) ≠ (Value.slice A' k c').ownBlock := fun e => HRW5.out.nx _ e.symm rfl
      have hneR : some w.heap.size ≠ (Value.slice A' k c').ownBlock := fun e => by have := (own_block_lt HRW5.out.own e.symm).1; omega
      have r1 := (hap.cell (a := ⟨w.heap.size + 2, 0, none⟩) (by simp; omega) hne2).trans (q2 _)
      have HB6 : Hid (Blk w6 (w.heap.size + 2) 25 #[.slice A' k c']) := Lib.hid ((HB5.out.alloc _).grown hap.grown hne2)
      have HX6 : Hid (Blk w6 w.heap.size 25 #[.slice none 0 0]) := Lib.hid ((HX5.out.alloc _).grown hap.grown hneR)
      have HK6 : Hid (Kept (· = rb) w w6) := Lib.hid ((HK5.out.alloc _).grown hap.grown fun j e hj => by have := (own_block_lt HRW5.out.own e).1; omega)
      have HR6 : Hid (RdAt S w6 rb (q + 1 + 702 * k + 702)) := Lib.hid ((HR5.out.alloc _).kept hap.kept fun j hj hS hD => by
        have h1 := (own_block_lt HRW5.out.own hD.symm).1
        rcases hS with h | h
        · have := HSS.out j h; omega
        · omega)
      have HRW6 : Hid (RowAt 50 (w.heap.size + 1) (· = w.heap.size + 2) w6 A2 (k + 1) c2 (l ++ [(d, 0)]) (xs ++ [.slice Ad d.length cd, .int .i64 0])) := Lib.hid (HRW5.out.snoc hap (fun j hj e => by omega) (own_cap HD5.out) ((own_bytes HD5.out).mono fun j _ hj => by
        have h1 := (own_block_lt HD5.out hj).1
        have h2 : wr.heap.size ≤ j := h1
        refine ⟨by omega, fun e => ?_, fun e => by omega⟩
        have := (own_block_lt HRW.out.own e.symm).2
        omega))
      have fr6 := HB6.out.frozen 0
      have hlt6 := HB6.out.lt
      clear hap
      refine hK.out _ _ (fun hne => r1) ?_
      clear hK K
      try simp only [Act.put, List.setIfInBounds_toArray, List.set_cons_zero, List.set_cons_succ]
      refine wpAnyR_one (k := 7) rfl (by kernel_rfl) (fun K hK => ?_)
      go_simp
      refine hK.out _ _ (fun hne => r1) ?_
      clear hK K
      try simp only [Act.put, List.setIfInBounds_toArray, List.set_cons_zero, List.set_cons_succ]
      refine wpAnyR_one (k := 8) rfl (by kernel_rfl) (fun K hK => ?_)
      go_simp
      refine hK.out _ _ (fun hne => absurd rfl hne) ?_
      clear hK K
      try simp only [Act.put, List.setIfInBounds_toArray, List.set_cons_zero, List.set_cons_succ]
      refine wpAnyR_done (by kernel_rfl) ?_ _
      clear r1 q1 q2 fr6 hS0 c0
      go_wp2_with fail
      go_roundg (r - 1)
      case measure => omega
      case rel =>
        refine ⟨r - 1, k + 1, A2, c2, by omega, by go_num, by omega, l ++ [(d, 0)], _, HRW6.out.setX rfl _, ?_, ?_, ?_, ?_, ?_⟩
        · simpa using HB6.out.put 0 (.slice A2 (k + 1) c2)
        · exact HX6.out.far (by show w.heap.size ≠ w.heap.size + 2; omega) _
        · refine (HR6.out.kept ((Kept.refl (· = w.heap.size + 2) _).setCell (p := ⟨w.heap.size + 2, 0, none⟩) (fun _ => rfl) _) fun j hj hS' e => ?_).mono (by omega)
          rcases hS' with h | h
          · have := HSS.out j h; omega
          · omega
        · exact HK6.out.setCell (p := ⟨w.heap.size + 2, 0, none⟩) (fun hh => by have : w.heap.size + 2 < w.heap.size := hh; omega) _
        · intro i hi
          have hl := HRW.out.len
          simp [hl] at hi
          by_cases hik : i < k
          · rw [dat_snoc (by omega)]; exact HDL.out i (by omega)
          · obtain rfl : i = l.length := by omega
            rw [dat_last]; exact hd7
    · have hr0' : ¬ (0 : Int) < (r : Int) := by omega
      by_cases hk0 : 0 < k
      · have hk0' : (0 : Int) < (k : Int) := by omega
        obtain ⟨g, cur, rfl, hg1, hg2, hgX, hgb, hgs⟩ := HRW.out.pos hk0
        have CO := one_new HRD.out.drew (by omega) [0, 1, 2, 1] 4 4 3 rfl (by omega) (by omega) #[.int .i64 0, .int .i64 1, .int .i64 2, .int .i64 1] rfl wr.heap.size rfl
        have HCO := Lib.hid CO
        have HGB := Lib.hid hgb
        obtain ⟨k1, hk1⟩ : ∃ k1, k = k1 + 1 := ⟨k - 1, by omega⟩
        obtain ⟨y, hy⟩ : ∃ y, cur[k1 * 2 + 1]? = some y := ⟨_, Array.getElem?_eq_getElem (by omega)⟩
        have h2 : (0 : Int) ≤ (k1 : Int) := by omega
        have h3 : (k : Int) - 1 = (k1 : Int) := by omega
        have h4 : IntKind.i64.wrap (k1 : Int) = (k1 : Int) := by rw [IntWalk.i64_left, IntWalk.wrap64_in _ (by omega)]
        have h5 : (k1 : Int) < (k : Int) := by omega
        have hgr : g ≠ rb := by omega
        have HK1 := Lib.hid hk1
        clear CO hgb C5 hk1
        go_wp2_with fail
        have hS0 : wr.drew.cell? ⟨w.heap.size + 2, 0, none⟩ = some (.slice (some ⟨g, 0, none⟩) k c') := c0
        refine wp_region_R (S := fun w' => w'.cell? ⟨w.heap.size + 2, 0, none⟩ = some (.slice (some ⟨g, 0, none⟩) k c')) (late := 11) (by kernel_rfl) ?_
        refine wpAnyR_take (i := 0) (v := ?_) rfl (by kernel_rfl) (by kernel_rfl) (by kernel_rfl) (by kernel_rfl) (fun _ _ _ h => h) hS0 (Or.inl ⟨by rfl, fun w hSw => ?_⟩) ?_
        rotate_left
        · (dsimp only at hSw; go_simp; try (with_reducible rfl))
        simp only [Act.put, List.setIfInBounds_toArray, List.set_cons_zero, List.set_cons_succ]
        refine wpAnyR_take (i := 1) (v := ?_) rfl (by kernel_rfl) (by kernel_rfl) (by kernel_rfl) (by kernel_rfl) (fun _ _ _ h => h) hS0 (Or.inl ⟨by rfl, fun w hSw => ?_⟩) ?_
        rotate_left
        · (dsimp only at hSw; go_simp; try (with_reducible rfl))
        simp only [Act.put, List.setIfInBounds_toArray, List.set_cons_zero, List.set_cons_succ]
        refine wpAnyR_take (i := 2) (v := ?_) rfl (by kernel_rfl) (by kernel_rfl) (by kernel_rfl) (by kernel_rfl) (fun _ _ _ h => h) hS0 (Or.inl ⟨by rfl, fun w hSw => ?_⟩) ?_
        rotate_left
        · (dsimp only at hSw; go_simp; try (with_reducible rfl))
        simp only [Act.put, List.setIfInBounds_toArray, List.set_cons_zero, List.set_cons_succ]
        refine wpAnyR_take (i := 3) (v := ?_) rfl (by kernel_rfl) (by kernel_rfl) (by kernel_rfl) (by kernel_rfl) (fun _ _ _ h => h) hS0 (Or.inl ⟨by rfl, fun w hSw => ?_⟩) ?_
        rotate_left
        · (dsimp only at hSw; go_simp; try (with_reducible rfl))
        simp only [Act.put, List.setIfInBounds_toArray, List.set_cons_zero, List.set_cons_succ]
        refine wpAnyR_take (i := 4) (v := ?_) rfl (by kernel_rfl) (by kernel_rfl) (by kernel_rfl) (by kernel_rfl) (fun _ _ _ h => h) hS0 (Or.inl ⟨by rfl, fun w hSw => ?_⟩) ?_
        rotate_left
        · (dsimp only at hSw; go_simp; try (with_reducible rfl))
        simp only [Act.put, List.setIfInBounds_toArray, List.set_cons_zero, List.set_cons_succ]
        refine wpAnyR_take (i := 5) (v := ?_) rfl (by kernel_rfl) (by kernel_rfl) (by kernel_rfl) (by kernel_rfl) (fun _ _ _ h => h) hS0 (Or.inl ⟨by rfl, fun w hSw => ?_⟩) ?_
        rotate_left
        · (dsimp only at hSw; go_simp; try (with_reducible rfl))
        simp only [Act.put, List.setIfInBounds_toArray, List.set_cons_zero, List.set_cons_succ]
        refine wpAnyR_take (i := 6) (v := ?_) rfl (by kernel_rfl) (by kernel_rfl) (by kernel_rfl) (by kernel_rfl) (fun _ _ _ h => h) hS0 (Or.inl ⟨by rfl, fun w hSw => ?_⟩) ?_
        rotate_left
        · (dsimp only at hSw; go_simp; try (with_reducible rfl))
        simp only [Act.put, List.setIfInBounds_toArray, List.set_cons_zero, List.set_cons_succ]
        refine wpAnyR_one (k := 7) rfl (by kernel_rfl) (fun K hK => ?_)
        go_simp
        have v0 := fun o => (World.cell?_alloc_lt wr.drew (a := ⟨w.heap.size + 2, 0, none⟩) o hszr).trans hS0
        refine hK.out _ _ (fun hne => v0 _) ?_
        clear hK K
        try simp only [Act.put, List.setIfInBounds_toArray, List.set_cons_zero, List.set_cons_succ]
        refine wpAnyR_one (k := 8) rfl (by kernel_rfl) (fun K hK => ?_)
        go_simp
        go_at_call 29
        refine HCO.out.mono ?_
        rintro e w5 ⟨z, hz, rfl, hr5, hk5⟩
        have v1 := (hk5.cell (p := ⟨w.heap.size + 2, 0, none⟩) hszr (by simp; omega)).trans c0
        have G5 := HGB.out.drew.kept hk5 (by omega)
        have g5 := (G5.cell (k1 * 2 + 1)).trans hy
        have f5 := G5.frozen (k1 * 2 + 1)
        have HR5 := Lib.hid hr5
        have HK5 := Lib.hid hk5
        clear hr5 hk5 G5
        refine hK.out _ _ (fun hne => v1) ?_
        clear hK K
        try simp only [Act.put, List.setIfInBounds_toArray, List.set_cons_zero, List.set_cons_succ]
        refine wpAnyR_one (k := 9) rfl (by kernel_rfl) (fun K hK => ?_)
        go_simp
        refine hK.out _ _ (fun hne => v1) ?_
        clear hK K
        try simp only [Act.put, List.setIfInBounds_toArray, List.set_cons_zero, List.set_cons_succ]
        refine wpAnyR_one (k := 10) rfl (by kernel_rfl) (fun K hK => ?_)
        go_simp
        refine hK.out _ _ (fun hne => v1) ?_
        clear hK K
        try simp only [Act.put, List.setIfInBounds_toArray, List.set_cons_zero, List.set_cons_succ]
        refine wpAnyR_one (k := 11) rfl (by kernel_rfl) (fun K hK => ?_)
        go_simp
        refine hK.out _ _ (fun hne => absurd rfl hne) ?_
        clear hK K
        try simp only [Act.put, List.setIfInBounds_toArray, List.set_cons_zero, List.set_cons_succ]
        refine wpAnyR_done (by kernel_rfl) ?_ _
        have HRW6 : Hid (RowAt 50 (w.heap.size + 1) (· = w.heap.size + 2) (w5.setCell ⟨g, k1 * 2 + 1, none⟩ (.int .i64 z)) (some ⟨g, 0, none⟩) k c' (l.set k1 (dat l k1, z)) (xs.set (k1 * 2 + 1) (.int .i64 z))) := Lib.hid ((HRW.out.drew.kept HK5.out fun j hj _ _ e => by omega).setErr (by have := HK1.out; omega))
        have HB6 : Hid (Blk (w5.setCell ⟨g, k1 * 2 + 1, none⟩ (.int .i64 z)) (w.heap.size + 2) 25 #[.slice (some ⟨g, 0, none⟩) k c']) := Lib.hid ((HBS.out.drew.kept HK5.out (by omega)).far (fun e => hgX e.symm) _)
        have HX6 : Hid (Blk (w5.setCell ⟨g, k1 * 2 + 1, none⟩ (.int .i64 z)) w.heap.size 25 #[.slice none 0 0]) := Lib.hid ((HBR.out.drew.kept HK5.out (by omega)).far (show w.heap.size ≠ g by omega) _)
        have HR6 : Hid (RdAt S (w5.setCell ⟨g, k1 * 2 + 1, none⟩ (.int .i64 z)) rb (q + 1 + 702 * k + 1)) := Lib.hid (HR5.out.kept ((Kept.refl (· = g) _).setCell (p := ⟨g, k1 * 2 + 1, none⟩) (fun _ => rfl) _) fun j hj hS' e => by
          rcases hS' with h | h
          · have := HSS.out j h; omega
          · omega)
        have HK6 : Hid (Kept (· = rb) w (w5.setCell ⟨g, k1 * 2 + 1, none⟩ (.int .i64 z))) := Lib.hid ((HKE.out.drew.trans HK5.out fun _ _ e => e).setCell (p := ⟨g, k1 * 2 + 1, none⟩) (fun hh => by have : g < w.heap.size := hh; omega) _)
        have HD6 : Hid (∀ i, i < (l.set k1 (dat l k1, z)).length → (dat (l.set k1 (dat l k1, z)) i).length ≤ 700) := Lib.hid (fun i hi => by
          have hi' : i < l.length := by simpa using hi
          rw [dat_set hi']; exact HDL.out i hi')
        clear HCO v0 v1 g5 f5 hS0
        generalize w5.setCell ⟨g, k1 * 2 + 1, none⟩ (.int .i64 z) = w6 at *
        generalize l.set k1 (dat l k1, z) = l6 at *
        generalize xs.set (k1 * 2 + 1) (.int .i64 z) = xs6 at *
        have CP := Lib.hid (pick_any HR6.out (by omega) 24 (by omega) (by omega))
        clear HR5 HK5 HRW HBS HBR HRD HKE HDL HGB c0 hy
        go_wp2_with fail
        refine CP.out.mono ?_
        rintro e w7 ⟨p, hp, rfl, hr7, hk7⟩
        have HRW7 : Hid (RowAt 50 (w.heap.size + 1) (· = w.heap.size + 2) w7 (some ⟨g, 0, none⟩) k c' l6 xs6) := Lib.hid (HRW6.out.kept hk7 fun j hj _ _ e => by omega)
        have HB7 : Hid (Blk w7 (w.heap.size + 2) 25 #[.slice (some ⟨g, 0, none⟩) k c']) := Lib.hid (HB6.out.kept hk7 (by omega))
        have HX7 : Hid (Blk w7 w.heap.size 25 #[.slice none 0 0]) := Lib.hid (HX6.out.kept hk7 (by omega))
        have HR7 := Lib.hid hr7
        have HK7 : Hid (Kept (· = rb) w w7) := Lib.hid (HK6.out.trans hk7 fun _ _ e => e)
        have c7 := HB7.out.cell 0
        have r7 := HX7.out.cell 0
        have f7 := HX7.out.frozen 0
        simp at c7 r7
        clear hr7 hk7 CP HRW6 HB6 HX6 HR6 HK6
        by_cases hp0 : p = 0
        · subst hp0
          have hsz7 := HB7.out.lt
          obtain ⟨g', cur7, eg, _, _, _, hgb7, hgs7⟩ := HRW7.out.pos hk0
          obtain rfl : g = g' := by injection eg with eg; injection eg
          obtain ⟨y7, hy7⟩ : ∃ y, cur7[1]? = some y := ⟨_, Array.getElem?_eq_getElem (by omega)⟩
          have CO7 := Lib.hid (one_new HR7.out.drew (by omega) [1, 2, 5] 3 3 3 rfl (by omega) (by omega) #[.int .i64 1, .int .i64 2, .int .i64 5] rfl w7.heap.size rfl)
          have HGB7 := Lib.hid hgb7
          clear hgb7 eg
          go_wp2_with fail
          have hS0 : w7.drew.cell? ⟨w.heap.size + 2, 0, none⟩ = some (.slice (some ⟨g, 0, none⟩) k c') := c7
          refine wp_region_R (S := fun w' => w'.cell? ⟨w.heap.size + 2, 0, none⟩ = some (.slice (some ⟨g, 0, none⟩) k c')) (late := 7) (by kernel_rfl) ?_
          refine wpAnyR_take (i := 0) (v := ?_) rfl (by kernel_rfl) (by kernel_rfl) (by kernel_rfl) (by kernel_rfl) (fun _ _ _ h => h) hS0 (Or.inl ⟨by rfl, fun w hSw => ?_⟩) ?_
          rotate_left
          · (dsimp only at hSw; go_simp; try (with_reducible rfl))
          simp only [Act.put, List.setIfInBounds_toArray, List.set_cons_zero, List.set_cons_succ]
          refine wpAnyR_take (i := 1) (v := ?_) rfl (by kernel_rfl) (by kernel_rfl) (by kernel_rfl) (by kernel_rfl) (fun _ _ _ h => h) hS0 (Or.inl ⟨by rfl, fun w hSw => ?_⟩) ?_
          rotate_left
          · (dsimp only at hSw; go_simp; try (with_reducible rfl))
          simp only [Act.put, List.setIfInBounds_toArray, List.set_cons_zero, List.set_cons_succ]
          refine wpAnyR_take (i := 2) (v := ?_) rfl (by kernel_rfl) (by kernel_rfl) (by kernel_rfl) (by kernel_rfl) (fun _ _ _ h => h) hS0 (Or.inl ⟨by rfl, fun w hSw => ?_⟩) ?_
          rotate_left
          · (dsimp only at hSw; go_simp; try (with_reducible rfl))
          simp only [Act.put, List.setIfInBounds_toArray, List.set_cons_zero, List.set_cons_succ]
          refine wpAnyR_one (k := 3) rfl (by kernel_rfl) (fun K hK => ?_)
          go_simp
          have v0 := fun o => (World.cell?_alloc_lt w7.drew (a := ⟨w.heap.size + 2, 0, none⟩) o hsz7).trans hS0
          refine hK.out _ _ (fun hne => v0 _) ?_
          clear hK K
          try simp only [Act.put, List.setIfInBounds_toArray, List.set_cons_zero, List.set_cons_succ]
          refine wpAnyR_one (k := 4) rfl (by kernel_rfl) (fun K hK => ?_)
          go_simp
          go_at_call 29
          refine CO7.out.mono ?_
          rintro e w8 ⟨z2, hz2, rfl, hr8, hk8⟩
          have v1 := (hk8.cell (p := ⟨w.heap.size + 2, 0, none⟩) hsz7 (by simp; omega)).trans c7
          have G5 := HGB7.out.drew.kept hk8 (by omega)
          have g5 := (G5.cell 1).trans hy7
          have f5 := G5.frozen 1
          have HR8 := Lib.hid hr8
          have HK8 := Lib.hid hk8
          clear hr8 hk8 G5
          refine hK.out _ _ (fun hne => v1) ?_
          clear hK K
          try simp only [Act.put, List.setIfInBounds_toArray, List.set_cons_zero, List.set_cons_succ]
          refine wpAnyR_one (k := 5) rfl (by kernel_rfl) (fun K hK => ?_)
          go_simp
          refine hK.out _ _ (fun hne => v1) ?_
          clear hK K
          try simp only [Act.put, List.setIfInBounds_toArray, List.set_cons_zero, List.set_cons_succ]
          refine wpAnyR_one (k := 6) rfl (by kernel_rfl) (fun K hK => ?_)
          go_simp
          refine hK.out _ _ (fun hne => v1) ?_
          clear hK K
          try simp only [Act.put, List.setIfInBounds_toArray, List.set_cons_zero, List.set_cons_succ]
          refine wpAnyR_one (k := 7) rfl (by kernel_rfl) (fun K hK => ?_)
          go_simp
          refine hK.out _ _ (fun hne => absurd rfl hne) ?_
          clear hK K
          try simp only [Act.put, List.setIfInBounds_toArray, List.set_cons_zero, List.set_cons_succ]
          refine wpAnyR_done (by kernel_rfl) ?_ _
          have HRW8 : Hid (RowAt 50 (w.heap.size + 1) (· = w.heap.size + 2) (w8.setCell ⟨g, 1, none⟩ (.int .i64 z2)) (some ⟨g, 0, none⟩) k c' (l6.set 0 (dat l6 0, z2)) (xs6.set 1 (.int .i64 z2))) := Lib.hid ((HRW7.out.drew.kept HK8.out fun j hj _ _ e => by omega).setErr (i := 0) hk0)
          have HB8 : Hid (Blk (w8.setCell ⟨g, 1, none⟩ (.int .i64 z2)) (w.heap.size + 2) 25 #[.slice (some ⟨g, 0, none⟩) k c']) := Lib.hid ((HB7.out.drew.kept HK8.out (by omega)).far (fun e => hgX e.symm) _)
          have HX8 : Hid (Blk (w8.setCell ⟨g, 1, none⟩ (.int .i64 z2)) w.heap.size 25 #[.slice none 0 0]) := Lib.hid ((HX7.out.drew.kept HK8.out (by omega)).far (show w.heap.size ≠ g by omega) _)
          have HR9 : Hid (RdAt S (w8.setCell ⟨g, 1, none⟩ (.int .i64 z2)) rb (q + 1 + 702 * k + 1 + 1 + 1)) := Lib.hid (HR8.out.kept ((Kept.refl (· = g) _).setCell (p := ⟨g, 1, none⟩) (fun _ => rfl) _) fun j hj hS' e => by
            rcases hS' with h | h
            · have := HSS.out j h; omega
            · omega)
          have HK9 : Hid (Kept (· = rb) w (w8.setCell ⟨g, 1, none⟩ (.int .i64 z2))) := Lib.hid ((HK7.out.drew.trans HK8.out fun _ _ e => e).setCell (p := ⟨g, 1, none⟩) (fun hh => by have : g < w.heap.size := hh; omega) _)
          have HD8 : Hid (∀ i, i < (l6.set 0 (dat l6 0, z2)).length → (dat (l6.set 0 (dat l6 0, z2)) i).length ≤ 700) := Lib.hid (fun i hi => by
            have hi' : i < l6.length := by simpa using hi
            rw [dat_set hi']; exact HD6.out i hi')
          clear CO7 v0 v1 g5 f5 hS0
          generalize w8.setCell ⟨g, 1, none⟩ (.int .i64 z2) = w9 at *
          generalize l6.set 0 (dat l6 0, z2) = l9 at *
          generalize xs6.set 1 (.int .i64 z2) = xs9 at *
          have c9 := HB8.out.cell 0
          have r9 := HX8.out.cell 0
          have f9 := HX8.out.frozen 0
          simp at c9 r9
          clear HR8 HK8 HRW7 HB7 HX7 HR7 HK7 HD6 HGB7 c7 r7 f7 hy7
          go_wp2_with fail
          refine bodyPost_ret (v := .agg #[.slice (some ⟨g, 0, none⟩) k c']) ?_ rfl ?_
          · simp [results, Tryd.results28, go_sem, r9]
          · exact src_done ⟨l9, xs9, HRW8.out, HB8.out, HX8.out, HR9.out, HK9.out, HD8.out⟩ (by omega) (by omega) hlt HSS.out
        · have hpb : ((p : Int) == 0) = false := by simp; omega
          go_wp2_with fail
          refine bodyPost_ret (v := .agg #[.slice (some ⟨g, 0, none⟩) k c']) ?_ rfl ?_
          · simp [results, Tryd.results28, go_sem, r7]
          · exact src_done ⟨l6, xs6, HRW7.out, HB7.out, HX7.out, HR7.out, HK7.out, HD6.out⟩ (by omega) (by omega) hlt HSS.out
      · obtain rfl : k = 0 := by omega
        have r0 := HBR.out.cell 0
        have f0 := HBR.out.frozen 0
        simp at r0
        go_wp2_with fail
        refine bodyPost_ret (v := .agg #[.slice A' 0 c']) ?_ rfl ?_
        · simp [results, Tryd.results28, go_sem, r0]
        · exact src_done ⟨l, xs, HRW.out, HBS.out, HBR.out, HRD.out, HKE.out, HDL.out⟩ (by omega) (by omega) hlt HSS.out

end Go.Proofs.YteljcdlnfjeaaaaDoor
