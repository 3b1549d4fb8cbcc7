/- The writer of a sink: what its memory is, and what Write does to it. -/
import Derived.Test.YtmoecjhlonokfaaDoorFull
import Derived.Test.YtmoecjhlonokfaaDoorLate
import Derived.Deep.RegionWith
set_option linter.unusedVariables false
set_option linter.unusedSimpArgs false
namespace Go.Proofs.YtmoecjhlonokfaaDoor
open Go.RowKit

/-- the sink at block sb: the room that is left, and what it has taken; F: its blocks -/
def WrAt (F : Nat → Prop) (w : World) (sb left : Nat) (data : List Int) : Prop :=
  ∃ A c, Blk w sb 62 #[.int .i64 left, .slice A data.length c] ∧ w.ownsRow 0 5 1 (.slice A data.length c) data.length (bytesV data) ∧ F sb ∧ (∀ g, (Value.slice A data.length c).ownBlock = some g → F g) ∧ ∀ k, F k → k < w.heap.size

theorem WrAt.keep {F : Nat → Prop} {w w' : World} {sb left : Nat} {data : List Int} (h : WrAt F w sb left data) (hsz : w.heap.size ≤ w'.heap.size) (hk : ∀ k, k < w.heap.size → F k → w'.heap[k]? = w.heap[k]?) : WrAt F w' sb left data := by
  obtain ⟨A, c, h1, h2, h3, h4, h5⟩ := h
  refine ⟨A, c, h1.keep (hk sb h1.lt h3), ⟨h2.1, ?_⟩, h3, h4, fun k hF => Nat.lt_of_lt_of_le (h5 k hF) hsz⟩
  rcases h2.2 with h | ⟨g, cap, cur, hv, hg, hh, r⟩
  · exact Or.inl h
  · have hlt := (Array.getElem?_eq_some_iff.1 hh).1
    exact Or.inr ⟨g, cap, cur, hv, hg, by rw [hk g hlt (h4 g (by rw [hv]; rfl))]; exact hh, r⟩
theorem WrAt.kept {D F : Nat → Prop} {w w' : World} {sb left : Nat} {data : List Int} (h : WrAt F w sb left data) (hb : Kept D w w') (hd : ∀ k, k < w.heap.size → F k → ¬ D k) : WrAt F w' sb left data :=
  h.keep hb.size fun k hk hF => hb.block k hk (hd k hk hF)
theorem WrAt.lt {F : Nat → Prop} {w : World} {sb left : Nat} {data : List Int} (h : WrAt F w sb left data) : sb < w.heap.size := by
  obtain ⟨A, c, h1, _⟩ := h
  exact h1.lt
theorem WrAt.sb {F : Nat → Prop} {w : World} {sb left : Nat} {data : List Int} (h : WrAt F w sb left data) : F sb := by
  obtain ⟨A, c, _, _, h3, _⟩ := h
  exact h3

/-- a new sink -/
theorem wr_new (w : World) (left : Nat) : WrAt (· = w.heap.size) (w.alloc (.cells #[.int .i64 left, .slice none 0 0] 62)) w.heap.size left [] :=
  ⟨none, 0, Blk.new _ _ _, World.ownsRow_nil _ _ _ _, rfl, (fun g hg => by cases hg), fun k hk => by rw [show k = w.heap.size from hk]; simp⟩

/-- what a write leaves -/
def WrPost (F : Nat → Prop) (E : Nat → Addr) (sb left : Nat) (data l : List Int) (w : World) (e : Ending) (w' : World) : Prop :=
  e = .returned (.tuple #[.int .i64 (l.take left).length, errV E (if left < l.length then 3 else 0)]) ∧ (∃ F', WrAt F' w' sb (left - (l.take left).length) (data ++ l.take left) ∧ ∀ k, F' k → F k ∨ w.heap.size ≤ k) ∧ Kept F w w'

/-- what is known of the world behind the append and the two stores -/
theorem wr_done {F : Nat → Prop} {w w2 : World} {sb left dl : Nat} {A A2 : Option Addr} {cc c2 n : Nat} {data lt : List Int} (hb : Blk w sb 62 #[.int .i64 left, .slice A data.length cc]) (hF : F sb) (hown : ∀ g, (Value.slice A data.length cc).ownBlock = some g → F g) (hlt : ∀ k, F k → k < w.heap.size)
    (hap : Appended 0 5 1 A2 (data.length + n) c2 (bytesV data ++ bytesV lt) (Value.slice A data.length cc).ownBlock w w2) (hn : lt.length = n) (hne : some sb ≠ (Value.slice A data.length cc).ownBlock) :
    (∃ F', WrAt F' ((w2.setCell ⟨sb, 1, none⟩ (.slice A2 (data.length + n) c2)).setCell ⟨sb, 0, none⟩ (.int .i64 ((left : Int) - (n : Int)))) sb (left - n) (data ++ lt) ∧ ∀ k, F' k → F k ∨ w.heap.size ≤ k) ∨ (left : Int) < n := by
  by_cases hln : (left : Int) < n
  · exact .inr hln
  refine .inl ⟨fun k => k = sb ∨ (Value.slice A2 (data.length + n) c2).ownBlock = some k, ⟨A2, c2, ?_, ?_, .inl rfl, fun g hg => ?_, fun k hk => ?_⟩, fun k hk => ?_⟩
  · have b2 := hb.grown hap.grown hne
    have b3 := (b2.put 1 (.slice A2 (data.length + n) c2)).put 0 (.int .i64 ((left : Int) - (n : Int)))
    have e1 : ((left - n : Nat) : Int) = (left : Int) - n := by omega
    rw [List.length_append, hn, e1]
    simpa using b3
  · have e2 : (data ++ lt).length = data.length + n := by rw [List.length_append, hn]
    rw [e2]
    have o2 := hap.own
    rw [← bytesV_append] at o2
    have ne2 : ∀ g, (Value.slice A2 (data.length + n) c2).ownBlock = some g → g ≠ sb := fun g hg e => by
      subst e
      rcases hap.2.2 with h | h
      · exact hne (by rw [← h, hg])
      · rw [hg] at h; injection h with h; have := hb.lt; omega
    refine ⟨o2.1, ?_⟩
    rcases o2.2 with h | ⟨g, cap, cur, hv, hg, hh, r⟩
    · exact Or.inl h
    · refine Or.inr ⟨g, cap, cur, hv, hg, ?_, r⟩
      have hg' := ne2 g (by rw [hv]; rfl)
      rw [Below.heap_setCell _ _ _ _ (by simpa using hg'), Below.heap_setCell _ _ _ _ (by simpa using hg')]
      exact hh
  · have e2 : (data ++ lt).length = data.length + n := by rw [List.length_append, hn]
    rw [e2] at hg
    exact .inr hg
  · simp only [World.setCell]
    have := hap.sizeLe
    rcases hk with rfl | hk
    · have := hb.lt; simp; omega
    · have := (own_block_lt hap.own hk).2; simp; omega
  · rcases hk with rfl | hk
    · exact .inl hF
    · rcases hap.2.2 with h | h
      · exact .inl (hown k (by rw [← h, hk]))
      · rw [hk] at h; injection h with h; exact .inr (by omega)

set_option maxHeartbeats 1000000 in
set_option maxRecDepth 100000 in
theorem write_any {B : Nat} {F S : Nat → Prop} {w : World} {E : Nat → Addr} (hE : Errs B w E) (hBw : B ≤ w.heap.size) (hBF : ∀ k, F k → B ≤ k) {sb left : Nat} {data : List Int} (h : WrAt F w sb left data) {P : Option Addr} {l : List Int} (c : Nat) (hl : BytesAt S w P l) (hlc : l.length ≤ c) (hleft : (left : Int) ≤ 9223372036854775807) (hsz : data.length + l.length ≤ 140737488355328) :
    Calls Tryd.prog 56 #[.pointer (some ⟨sb, 0, none⟩), .slice P l.length c] w (WrPost F E sb left data l w) := by
  obtain ⟨i0, hi0, hz0, hz1, hz2⟩ := info_parts infoU8
  obtain ⟨A, cc, hb, hown, hF, hFo, hFl⟩ := h
  have c0 := hb.cell 0
  have c1 := hb.cell 1
  have f0 := hb.frozen 0
  have f1 := hb.frozen 1
  simp at c0 c1
  have hne : some sb ≠ (Value.slice A data.length cc).ownBlock := fun e => by
    rcases hown.2 with ⟨hv, _⟩ | ⟨g, cap, cur, hv, _, hg, _⟩
    · rw [hv] at e; cases e
    · rw [hv] at e
      injection e with e
      have e : sb = g := e
      subst e
      exact (Blk.ne_of (w := w) (show Blk w sb 5 cur from hg) hb (by decide)) rfl
  have hlt := hb.lt
  have hdn : (l.take left).length = min left l.length := List.length_take
  have HPOST : Hid (∀ (w2 : World) (A2 : Option Addr) (c2 n : Nat) (w3 : World) (v : Value), (l.take left).length = n → Appended 0 5 1 A2 (data.length + n) c2 (bytesV data ++ bytesV (l.take left)) (Value.slice A data.length cc).ownBlock w.drew w2 → (∃ q, w3 = ((w2.setCell ⟨sb, 1, none⟩ (.slice A2 (data.length + n) c2)).setCell ⟨sb, 0, none⟩ (.int .i64 ((left : Int) - (n : Int)))).drewN q) →
      v = errV E (if left < l.length then 3 else 0) → WrPost F E sb left data l w (.returned (.tuple #[.int .i64 n, v])) w3) := Lib.hid fun w2 A2 c2 n w3 v hn hap hw3 hv => by
    obtain ⟨q, rfl⟩ := hw3
    subst hv
    unfold WrPost
    rw [hn]
    refine ⟨rfl, ?_, ?_⟩
    · rcases wr_done (left := left) (dl := 0) hb.drew hF hFo hFl hap hn hne with ⟨F', h1, h2⟩ | h
      · exact ⟨F', h1.keep (Nat.le_refl _) fun _ _ _ => rfl, h2⟩
      · exfalso; omega
    · refine Kept.drewN ?_ q
      refine Kept.setCell (Kept.setCell ?_ (p := ⟨sb, 1, none⟩) (fun _ => hF) _) (p := ⟨sb, 0, none⟩) (fun _ => hF) _
      exact (Kept.refl F w).drew.trans hap.kept fun k _ e => hFo k e.symm
  have h3 := hE.cell 3 rfl
  have hG3 := hE.glt 3 rfl
  have hsbG : errG 3 ≠ sb := fun e => by have := hBF sb hF; omega
  have hneG : some (errG 3) ≠ (Value.slice A data.length cc).ownBlock := fun e => by have := hBF _ (hFo _ e.symm); omega
  simp only [errG] at h3 hG3 hsbG hneG
  generalize hlt' : l.take left = lt at HPOST hdn ⊢
  obtain ⟨n, hn⟩ : ∃ n, lt.length = n := ⟨_, rfl⟩
  have HN := Lib.hid hn
  have hnb : n ≤ l.length := by omega
  have hnl : (n : Int) ≤ (left : Int) := by omega
  have hmin : (if (left : Int) < (l.length : Int) then (left : Int) else (l.length : Int)) = (n : Int) := by split <;> omega
  have hmin2 : (if left < l.length then (left : Int) else (l.length : Int)) = (n : Int) := by split <;> omega
  have HNW : Hid (NewsAt w.drew P n (bytesV lt)) := Lib.hid (by
    have := (hl.take left).news
    rw [hlt', hn] at this
    exact this)
  have HOW := Lib.hid hown
  have HBV := Lib.hid (show (bytesV lt).length = n * 1 by rw [bytesV_length]; omega)
  have hsl := fun w' : World => slice_bytes_to P l.length c n (by omega) w'
  have hfin : Hid (left < l.length ↔ n < l.length) := Lib.hid (by omega)
  have HB := Lib.hid hb
  clear hE hl hown hFo hFl hb hdn hlt' hn
  have HVT : Hid (n < l.length → Value.iface 103 (.pointer (some (E 3))) = errV E (if left < l.length then 3 else 0)) := Lib.hid fun hh => by rw [if_pos (hfin.out.2 hh)]; exact (errV_pos E 3 rfl).symm
  have HVF : Hid (¬ n < l.length → Value.nilIface = errV E (if left < l.length then 3 else 0)) := Lib.hid fun hh => by rw [if_neg fun h => hh (hfin.out.1 h)]; rfl
  clear hfin
  generalize l.length = m at *
  generalize data.length = dl at *
  go_enter Tryd.func56, Tryd.ntmps56
  go_wp2_with fail
  have hS0 : w.drew.cell? ⟨sb, 1, none⟩ = some (.slice A dl cc) := c1
  refine wp_region_R (S := fun w' => w'.cell? ⟨sb, 1, none⟩ = some (.slice A dl cc)) (late := 11) (by kernel_rfl) ?_
  refine wpAnyR_take (i := 0) (v := ?_) rfl (by kernel_rfl) (by kernel_rfl) (by kernel_rfl) (by kernel_rfl) (fun _ _ _ h => h) hS0 (Or.inl ⟨by rfl, fun w hSw => ?_⟩) ?_
  rotate_left
  · (dsimp only at hSw; go_simp; try (with_reducible rfl))
  simp only [Act.put, List.setIfInBounds_toArray, List.set_cons_zero, List.set_cons_succ]
  refine wpAnyR_take (i := 1) (v := ?_) rfl (by kernel_rfl) (by kernel_rfl) (by kernel_rfl) (by kernel_rfl) (fun _ _ _ h => h) hS0 (Or.inl ⟨by rfl, fun w hSw => ?_⟩) ?_
  rotate_left
  · (dsimp only at hSw; go_simp; try (with_reducible rfl))
  simp only [Act.put, List.setIfInBounds_toArray, List.set_cons_zero, List.set_cons_succ]
  refine wpAnyR_take (i := 2) (v := ?_) rfl (by kernel_rfl) (by kernel_rfl) (by kernel_rfl) (by kernel_rfl) (fun _ _ _ h => h) hS0 (Or.inl ⟨by rfl, fun w hSw => ?_⟩) ?_
  rotate_left
  · (dsimp only at hSw; go_simp; try (with_reducible rfl))
  simp only [Act.put, List.setIfInBounds_toArray, List.set_cons_zero, List.set_cons_succ]
  refine wpAnyR_take (i := 3) (v := ?_) rfl (by kernel_rfl) (by kernel_rfl) (by kernel_rfl) (by kernel_rfl) (fun _ _ _ h => h) hS0 (Or.inl ⟨by rfl, fun w hSw => ?_⟩) ?_
  rotate_left
  · (dsimp only at hSw; go_simp; try (with_reducible rfl))
  simp only [Act.put, List.setIfInBounds_toArray, List.set_cons_zero, List.set_cons_succ]
  refine wpAnyR_take (i := 4) (v := ?_) rfl (by kernel_rfl) (by kernel_rfl) (by kernel_rfl) (by kernel_rfl) (fun _ _ _ h => h) hS0 (Or.inl ⟨by rfl, fun w hSw => ?_⟩) ?_
  rotate_left
  · (dsimp only at hSw; go_simp; try (with_reducible rfl))
  simp only [Act.put, List.setIfInBounds_toArray, List.set_cons_zero, List.set_cons_succ]
  refine wpAnyR_take (i := 5) (v := ?_) rfl (by kernel_rfl) (by kernel_rfl) (by kernel_rfl) (by kernel_rfl) (fun _ _ _ h => h) hS0 (Or.inl ⟨by rfl, fun w hSw => ?_⟩) ?_
  rotate_left
  · (dsimp only at hSw; go_simp; try (with_reducible rfl))
  simp only [Act.put, List.setIfInBounds_toArray, List.set_cons_zero, List.set_cons_succ]
  refine wpAnyR_take (i := 6) (v := ?_) rfl (by kernel_rfl) (by kernel_rfl) (by kernel_rfl) (by kernel_rfl) (fun _ _ _ h => h) hS0 (Or.inl ⟨by rfl, fun w hSw => ?_⟩) ?_
  rotate_left
  · (dsimp only at hSw; go_simp; try (with_reducible rfl))
  simp only [Act.put, List.setIfInBounds_toArray, List.set_cons_zero, List.set_cons_succ]
  refine wpAnyR_take (i := 7) (v := .slice P n c) rfl (by kernel_rfl) (by kernel_rfl) (by kernel_rfl) (by kernel_rfl) (fun _ _ _ h => h) hS0 (Or.inl ⟨by rfl, fun w hSw => ?_⟩) ?_
  · dsimp only at hSw
    go_simp
  simp only [Act.put, List.setIfInBounds_toArray, List.set_cons_zero, List.set_cons_succ]
  refine wpAnyR_one (k := 8) rfl (by kernel_rfl) (fun K hK => ?_)
  refine step_append_gen _ (by rfl) (.tmp 18) (.tmp 21) 31 (by rfl) 0 5 i0 _ 1 1 Tryd.underlying31 hi0 hz0 hz1 hz2 rfl (by omega) (.slice A dl cc) dl (bytesV data) (by simp [Act.eval, Act.put]) (own_drew HOW.out) P n c (bytesV lt) (by simp [Act.eval, Act.put]) HBV.out HNW.out (bytesV_one lt) (by unfold maxLen; omega) (by omega) (by omega) ?_
  intro A2 c2 w2 hap
  have B2 := HB.out.drew.grown hap.grown hne
  have r0 := B2.cell 0
  have r1 := B2.cell 1
  have r2 := B2.frozen 0
  have r3 := B2.frozen 1
  simp at r0 r1
  have r4 := (hap.cell (a := ⟨2, 0, none⟩) (show (2 : Nat) < w.heap.size by omega) hneG).trans h3
  have HPO := fun (w3 : World) (v : Value) => HPOST.out w2 A2 c2 n w3 v HN.out hap
  have HPP := Lib.hid HPO
  clear hap B2 HPO HPOST
  refine hK.out _ _ (fun hne => r1) ?_
  clear hK K
  try simp only [Act.put, List.setIfInBounds_toArray, List.set_cons_zero, List.set_cons_succ]
  refine wpAnyR_one (k := 9) rfl (by kernel_rfl) (fun K hK => ?_)
  go_simp
  refine hK.out _ _ (fun hne => r1) ?_
  clear hK K
  try simp only [Act.put, List.setIfInBounds_toArray, List.set_cons_zero, List.set_cons_succ]
  refine wpAnyR_one (k := 10) rfl (by kernel_rfl) (fun K hK => ?_)
  go_simp
  refine hK.out _ _ (fun hne => r1) ?_
  clear hK K
  try simp only [Act.put, List.setIfInBounds_toArray, List.set_cons_zero, List.set_cons_succ]
  refine wpAnyR_one (k := 11) rfl (by kernel_rfl) (fun K hK => ?_)
  go_simp
  refine hK.out _ _ (fun hne => absurd rfl hne) ?_
  clear hK K
  try simp only [Act.put, List.setIfInBounds_toArray, List.set_cons_zero, List.set_cons_succ]
  refine wpAnyR_done (by kernel_rfl) ?_ _
  clear hS0 c0 c1 f0 f1 h3 hsl hneG
  by_cases hlm : n < m
  · go_wp2_with fail
    go_quiet (fail)
    go_wp2_with fail
    go_ret2
    exact HPP.out _ _ ⟨_, rfl⟩ (HVT.out hlm)
  · have hlm' : ¬ (n : Int) < (m : Int) := by omega
    go_wp2_with fail
    go_ret2
    exact HPP.out _ _ ⟨0, rfl⟩ (HVF.out hlm)

end Go.Proofs.YtmoecjhlonokfaaDoor
