/- How sinks, lists of bytes and sources that came in read, by their bulk. -/
import Derived.Test.YtmoecjhlonokfaaDoorOpen2
import Derived.Test.YtmoecjhlonokfaaDoorEls
set_option linter.unusedVariables false
set_option linter.unusedSimpArgs false
namespace Go.Proofs.YtmoecjhlonokfaaDoor
open Go.ChangeShapes Go.WideShapes Go.ChangeAt Go.RowKit Go.Deep

section
variable {H : Type} {enc : TypeId × Value → H}

theorem flat_bulk : ∀ {ls : List (List Int)} {ds : List (DataW H)}, ls.length = ds.length → (∀ i, i < ls.length → (ls.getD i []).length ≤ Rows.uptoBulk (ds.getD i .nil)) → ls.flatten.length ≤ Rows.uptoBulkAll ds
  | [], [], _, _ => by simp [Rows.uptoBulkAll]
  | l :: r, d :: ds, h, hp => by
    have h0 := hp 0 (by simp)
    have ih := flat_bulk (ls := r) (ds := ds) (by simpa using h) fun i hi => by
      have := hp (i + 1) (by simpa using hi)
      simpa using this
    simp only [List.getD_cons_zero] at h0
    rw [List.flatten_cons, List.length_append]
    simp only [Rows.uptoBulkAll]
    omega

set_option maxRecDepth 100000 in
/-- sinks that came in -/
theorem open_sinks {W : World} {fuel : Nat} {cs : List Value} {x : DataW H × List MemPlace} (h : DataW.trod enc Tryd.prog W 0 (fun _ => true) true fuel 22 cs = some x) :
    ∃ A ks c, cs = [.slice A ks.length c] ∧ ks.length ≤ c ∧ IntsAt (· < W.heap.size) W A ks ∧ ks.length + 1 ≤ Rows.uptoBulk x.1 ∧ ∀ i, i < ks.length → nth ks i ≤ 9223372036854775807 := by
  rcases open_slice Tryd.underlying22 h with ⟨rfl, rfl⟩ | ⟨a, len, cap, m, n, D, Pl, rfl, _, hlc, hcm, hm, rfl, hall⟩
  · exact ⟨none, [], 0, rfl, Nat.le_refl _, IntsAt.nil _ _ _, by simp [Rows.uptoBulk], fun i hi => by simp at hi⟩
  · simp only [if_true] at hm
    subst hm
    have step : ∀ i, i < len → ∃ r : Int, W.cell? (a.add i) = some (.int .i64 r) ∧ r ≤ 9223372036854775807 := fun i hi => by
      obtain ⟨cs', hcs, ht⟩ := hall i (by omega)
      rw [cellsSink, Nat.mul_one] at hcs
      obtain ⟨y0, n', hx, hl', h0⟩ := trod_struct1 Tryd.underlying36 ht
      obtain ⟨_, hcl, hat⟩ := World.cells?_some hcs
      obtain ⟨c0, rfl⟩ : ∃ c0, cs' = [c0] := by
        match cs', hcl with
        | [c0], _ => exact ⟨c0, rfl⟩
      simp only [cellsInt] at h0
      have h0' : DataW.trod enc Tryd.prog W 0 (fun _ => true) true n' 3 [c0] = some y0 := by simpa using h0
      obtain ⟨z0, e0, _, hwf⟩ := DataW.trod_int Tryd.underlying3 h0'
      obtain rfl : c0 = .int .i64 z0 := by simpa using e0
      refine ⟨z0, ?_, (bounds_i64 hwf).2⟩
      have := hat 0 (by omega)
      simpa [Addr.add] using this
    obtain ⟨ks, hst, hp⟩ := exists_list (0 : Int) step
    refine ⟨some a, ks, m, by rw [hst], by omega, fun hpos => ?_, ?_, fun i hi => (hp i (by omega)).2⟩
    · have q1' : W.cell? a = some (.int .i64 (ks.getD 0 0)) := by simpa [Addr.add] using (hp 0 (by omega)).1
      obtain ⟨b, off, rfl, hb⟩ := addr_lit q1'
      refine ⟨b, off, rfl, hb, hb, fun i hi => ?_⟩
      have := (hp i (by omega)).1
      rw [add_lit_] at this
      exact this
    · have h1 := bulk_len (H := H) ((List.range len).map D)
      simp only [List.length_map, List.length_range] at h1
      simp only [Rows.uptoBulk]
      omega

set_option maxRecDepth 100000 in
/-- lists of bytes that came in -/
theorem open_lists {W : World} {fuel : Nat} {cs : List Value} {x : DataW H × List MemPlace} (h : DataW.trod enc Tryd.prog W 0 (fun _ => true) true fuel 23 cs = some x) :
    ∃ A ls c, cs = [.slice A ls.length c] ∧ ls.length ≤ c ∧ ElsAt ElB 1 (· < W.heap.size) W A ls ∧ ls.length + 1 ≤ Rows.uptoBulk x.1 ∧ ls.flatten.length ≤ Rows.uptoBulk x.1 := by
  rcases open_slice Tryd.underlying23 h with ⟨rfl, rfl⟩ | ⟨a, len, cap, m, n, D, Pl, rfl, _, hlc, hcm, hm, rfl, hall⟩
  · exact ⟨none, [], 0, rfl, Nat.le_refl _, ElsAt.nil _ _ _, by simp [Rows.uptoBulk], by simp⟩
  · simp only [if_true] at hm
    subst hm
    have step : ∀ i, i < len → ∃ r : List Int, ∃ Ai ci, W.cell? (a.add i) = some (.slice Ai r.length ci) ∧ r.length ≤ ci ∧ BytesAt (· < W.heap.size) W Ai r ∧ r.length ≤ Rows.uptoBulk (D i) := fun i hi => by
      obtain ⟨cs', hcs, ht⟩ := hall i (by omega)
      rw [cellsBytes, Nat.mul_one] at hcs
      obtain ⟨_, hcl, hat⟩ := World.cells?_some hcs
      obtain ⟨Ai, l, ci, e0, hlc', hby, hbk, _, _⟩ := open_bytes ht
      subst e0
      refine ⟨l, Ai, ci, ?_, hlc', hby, ?_⟩
      · have := hat 0 (by omega)
        simpa [Addr.add] using this
      · dsimp only at hbk
        omega
    obtain ⟨ls, hst, hp⟩ := exists_list ([] : List Int) step
    have hb1 : Rows.uptoBulkAll ((List.range len).map D) + 1 ≤ Rows.uptoBulk (DataW.slice ((List.range len).map D) ((List.range (m - len)).map fun j => D (len + j))) := by simp only [Rows.uptoBulk]; omega
    refine ⟨some a, ls, m, by rw [hst], by omega, fun hpos => ?_, ?_, ?_⟩
    · obtain ⟨A0, c0, q1, _⟩ := hp 0 (by omega)
      have q1' : W.cell? a = some (.slice A0 (ls.getD 0 []).length c0) := by simpa [Addr.add] using q1
      obtain ⟨b, off, rfl, hb⟩ := addr_lit q1'
      refine ⟨b, off, rfl, hb, hb, fun i hi => ?_⟩
      obtain ⟨Ai, ci, q1, q2, q3, _⟩ := hp i (by omega)
      rw [add_lit_] at q1
      have e : ls.getD i [] = ls[i] := by simp [hi]
      rw [e] at q1 q2 q3
      refine ⟨[.slice Ai (ls[i]).length ci], rfl, fun j hj => ?_, Ai, ci, rfl, q2, q3⟩
      obtain rfl : j = 0 := by omega
      rw [Nat.add_zero, Nat.mul_one]
      exact q1
    · have h1 := bulk_len (H := H) ((List.range len).map D)
      simp only [List.length_map, List.length_range] at h1
      dsimp only
      omega
    · have h1 := flat_bulk (H := H) (ls := ls) (ds := (List.range len).map D) (by simp [hst]) fun i hi => by
        obtain ⟨Ai, ci, _, _, _, q4⟩ := hp i (by omega)
        have e : ((List.range len).map D).getD i .nil = D i := by
          rw [List.getD_eq_getElem?_getD, List.getElem?_map, List.getElem?_range (by omega)]; rfl
        rw [e]
        exact q4
      dsimp only
      omega

set_option maxRecDepth 100000 in
/-- sources that came in -/
theorem open_sources {W : World} {fuel : Nat} {cs : List Value} {x : DataW H × List MemPlace} (h : DataW.trod enc Tryd.prog W 0 (fun _ => true) true fuel 40 cs = some x) :
    ∃ A ss c, cs = [.slice A ss.length c] ∧ ss.length ≤ c ∧ ElsAt ElS 1 (· < W.heap.size) W A ss ∧ ss.length + 1 ≤ Rows.uptoBulk x.1 ∧ ∀ st ∈ ss, st.length + 1 ≤ Rows.uptoBulk x.1 ∧ ∀ i, i < st.length → (dat st i).length ≤ Rows.uptoBulk x.1 := by
  rcases open_slice Tryd.underlying40 h with ⟨rfl, rfl⟩ | ⟨a, len, cap, m, n, D, Pl, rfl, _, hlc, hcm, hm, rfl, hall⟩
  · exact ⟨none, [], 0, rfl, Nat.le_refl _, ElsAt.nil _ _ _, by simp [Rows.uptoBulk], fun st hst => by cases hst⟩
  · simp only [if_true] at hm
    subst hm
    have step : ∀ i, i < len → ∃ r : List (List Int × Int), ∃ Ai ci, W.cell? (a.add i) = some (.slice Ai r.length ci) ∧ r.length ≤ ci ∧ RecsAt (· < W.heap.size) W Ai r ∧ r.length + 1 ≤ Rows.uptoBulk (D i) ∧ ∀ j, j < r.length → (dat r j).length ≤ Rows.uptoBulk (D i) := fun i hi => by
      obtain ⟨cs', hcs, ht⟩ := hall i (by omega)
      rw [cellsSource, Nat.mul_one] at hcs
      obtain ⟨y0, n', hx, hl', h0⟩ := trod_struct1 Tryd.underlying53 ht
      obtain ⟨_, hcl, hat⟩ := World.cells?_some hcs
      obtain ⟨c0, rfl⟩ : ∃ c0, cs' = [c0] := by
        match cs', hcl with
        | [c0], _ => exact ⟨c0, rfl⟩
      simp only [cellsSteps] at h0
      have h0' : DataW.trod enc Tryd.prog W 0 (fun _ => true) true n' 51 [c0] = some y0 := by simpa using h0
      obtain ⟨Ai, st, ci, e0, hlc', hr, hb1, hb2⟩ := open_steps h0'
      obtain rfl : c0 = .slice Ai st.length ci := by simpa using e0
      have hD : D i = .agg [y0.1] := by simpa using congrArg Prod.fst hx
      have hb : Rows.uptoBulk y0.1 ≤ Rows.uptoBulk (D i) := by
        rw [hD]
        have := bulk_mem (d := y0.1) (l := [y0.1]) (by simp)
        simp only [Rows.uptoBulk]
        omega
      refine ⟨st, Ai, ci, ?_, hlc', hr, by omega, fun j hj => by have := hb2 j hj; omega⟩
      have := hat 0 (by omega)
      simpa [Addr.add] using this
    obtain ⟨ss, hst, hp⟩ := exists_list ([] : List (List Int × Int)) step
    have hb1 : Rows.uptoBulkAll ((List.range len).map D) + 1 ≤ Rows.uptoBulk (DataW.slice ((List.range len).map D) ((List.range (m - len)).map fun j => D (len + j))) := by simp only [Rows.uptoBulk]; omega
    refine ⟨some a, ss, m, by rw [hst], by omega, fun hpos => ?_, ?_, fun st hmem => ?_⟩
    · obtain ⟨A0, c0, q1, _⟩ := hp 0 (by omega)
      have q1' : W.cell? a = some (.slice A0 (ss.getD 0 []).length c0) := by simpa [Addr.add] using q1
      obtain ⟨b, off, rfl, hb⟩ := addr_lit q1'
      refine ⟨b, off, rfl, hb, hb, fun i hi => ?_⟩
      obtain ⟨Ai, ci, q1, q2, q3, _⟩ := hp i (by omega)
      rw [add_lit_] at q1
      have e : ss.getD i [] = ss[i] := by simp [hi]
      rw [e] at q1 q2 q3
      refine ⟨[.slice Ai (ss[i]).length ci], rfl, fun j hj => ?_, Ai, ci, rfl, q2, q3⟩
      obtain rfl : j = 0 := by omega
      rw [Nat.add_zero, Nat.mul_one]
      exact q1
    · have h1 := bulk_len (H := H) ((List.range len).map D)
      simp only [List.length_map, List.length_range] at h1
      dsimp only
      omega
    · obtain ⟨i, hi, rfl⟩ := List.getElem_of_mem hmem
      obtain ⟨Ai, ci, _, _, _, q4, q5⟩ := hp i (by omega)
      have e : ss.getD i [] = ss[i] := by simp [hi]
      rw [e] at q4 q5
      have h1 := bulk_mem (H := H) (d := D i) (l := (List.range len).map D) (List.mem_map.2 ⟨i, by simp; omega, rfl⟩)
      exact ⟨by dsimp only; omega, fun j hj => by have := q5 j hj; dsimp only; omega⟩
end

end Go.Proofs.YtmoecjhlonokfaaDoor
