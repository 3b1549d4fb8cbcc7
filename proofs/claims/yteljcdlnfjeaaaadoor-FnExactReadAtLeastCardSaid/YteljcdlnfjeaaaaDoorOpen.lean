/- How the arguments of the laws read: bytes, ints, a source; and how large they are, by the bulk of the reading. -/
import Derived.Test.YteljcdlnfjeaaaaDoorRows
import Derived.Test.YteljcdlnfjeaaaaDoorTop
set_option linter.unusedVariables false
set_option linter.unusedSimpArgs false
namespace Go.Proofs.YteljcdlnfjeaaaaDoor
open Go.ChangeShapes Go.WideShapes Go.ChangeAt Go.RowKit Go.Deep

theorem bulk_one {H : Type} (d : DataW H) : 1 ≤ Rows.uptoBulk d := by
  cases d with
  | lit l => cases l <;> simp [Rows.uptoBulk]
  | nil => simp [Rows.uptoBulk]
  | ptr d => simp [Rows.uptoBulk]
  | slice elems spare => simp [Rows.uptoBulk]
  | agg parts => simp [Rows.uptoBulk]
  | iface t d => simp [Rows.uptoBulk]
  | map entries => simp [Rows.uptoBulk]
  | held h => simp [Rows.uptoBulk]
theorem bulk_mem {H : Type} {d : DataW H} : ∀ {l : List (DataW H)}, d ∈ l → Rows.uptoBulk d ≤ Rows.uptoBulkAll l
  | x :: r, h => by
    simp only [Rows.uptoBulkAll]
    rcases List.mem_cons.1 h with rfl | h
    · omega
    · have := bulk_mem h; omega
theorem bulk_len {H : Type} : ∀ (l : List (DataW H)), l.length ≤ Rows.uptoBulkAll l
  | [] => by simp [Rows.uptoBulkAll]
  | x :: r => by have := bulk_one x; have := bulk_len r; simp only [Rows.uptoBulkAll, List.length_cons]; omega
theorem bulk_append {H : Type} : ∀ (l r : List (DataW H)), Rows.uptoBulkAll (l ++ r) = Rows.uptoBulkAll l + Rows.uptoBulkAll r
  | [], r => by simp [Rows.uptoBulkAll]
  | x :: l, r => by simp only [List.cons_append, Rows.uptoBulkAll, bulk_append l r]; omega
theorem bulk_bound {H : Type} {l : List (DataW H)} (hk : Rows.uptoSmall H l = true) : Rows.uptoBulkAll l ≤ 1048576 := of_decide_eq_true hk

theorem exists_list {α : Type} (d0 : α) {P : Nat → α → Prop} : ∀ {n : Nat}, (∀ i, i < n → ∃ x, P i x) → ∃ l : List α, l.length = n ∧ ∀ i, i < n → P i (l.getD i d0)
  | 0, _ => ⟨[], rfl, fun i hi => absurd hi (by omega)⟩
  | n + 1, h => by
    obtain ⟨l, hl, hp⟩ := exists_list d0 (n := n) fun i hi => h i (by omega)
    obtain ⟨x, hx⟩ := h n (by omega)
    refine ⟨l ++ [x], by simp [hl], fun i hi => ?_⟩
    by_cases hin : i < n
    · have := hp i hin
      rw [List.getD_eq_getElem?_getD, List.getElem?_append_left (by omega), ← List.getD_eq_getElem?_getD]
      exact this
    · obtain rfl : i = n := by omega
      rw [List.getD_eq_getElem?_getD, List.getElem?_append_right (by omega), hl]
      simpa using hx

theorem addr_lit {W : World} {a : Addr} {v : Value} (h : W.cell? a = some v) : ∃ b off, a = ⟨b, off, none⟩ ∧ b < W.heap.size := by
  obtain ⟨b, off, sp⟩ := a
  have hlt := World.block_lt_of_cell? W _ h
  cases sp with
  | none => exact ⟨b, off, rfl, hlt⟩
  | some z =>
    exfalso
    unfold World.cell? at h
    split at h
    · simp at h
    · cases h

theorem add_lit_ (b off n : Nat) : (⟨b, off, none⟩ : Addr).add n = ⟨b, off + n, none⟩ := by
  unfold Addr.add
  split
  · next e => subst e; rfl
  · rfl

theorem nth_take {zs : List Int} {len j : Nat} (h : j < len) : nth (zs.take len) j = zs.getD j 0 := by simp [nth, List.getElem?_take, h]

section
variable {H : Type} {enc : TypeId × Value → H}

theorem cellsU8 : Tryd.prog.cellsOf 5 = 1 := by kernel_rfl
theorem cellsInt : Tryd.prog.cellsOf 3 = 1 := by kernel_rfl

/-- a slice of bytes that came in -/
theorem open_bytes {W : World} {fuel : Nat} {cs : List Value} {x : DataW H × List MemPlace} (h : DataW.trod enc Tryd.prog W 0 (fun _ => true) true fuel 22 cs = some x) :
    ∃ A l c, cs = [.slice A l.length c] ∧ l.length ≤ c ∧ BytesAt (· < W.heap.size) W A l ∧ l.length + 1 ≤ Rows.uptoBulk x.1 ∧ (∀ j, 0 ≤ nth l j ∧ nth l j ≤ 255) ∧ c ≤ maxLen := by
  rcases open_ints Tryd.underlying22 Tryd.underlying5 cellsU8 h with ⟨rfl, rfl⟩ | ⟨a, len, cap, zs, rfl, _, hlc, hcm, hzl, rfl, hc, hwf⟩
  · exact ⟨none, [], 0, rfl, Nat.le_refl _, BytesAt.nil _ _ _, by simp [Rows.uptoBulk], fun j => by simp [nth], by simp⟩
  · simp only [if_true] at hzl
    have hl : (zs.take len).length = len := by simp; omega
    refine ⟨some a, zs.take len, cap, by rw [hl], by omega, fun hp => ?_, ?_, fun j => ?_, hcm⟩
    · have h0 : W.cell? a = some (.int .u8 (zs.getD 0 0)) := by simpa [Addr.add] using hc 0 (by omega)
      obtain ⟨b, off, rfl, hb⟩ := addr_lit h0
      refine ⟨b, off, rfl, hb, hb, fun j hj => ?_⟩
      rw [nth_take (by omega), ← hc j (by omega), add_lit_]
    · have h1 := bulk_len (H := H) (lits .u8 (zs.take len))
      simp only [lits, List.length_map] at h1
      simp only [Rows.uptoBulk, lits]
      omega
    · by_cases hj : j < (zs.take len).length
      · rw [nth_get hj]
        exact bounds_u8 (hwf _ (List.mem_of_mem_take (List.getElem_mem hj)))
      · simp [nth, List.getElem?_eq_none (Nat.le_of_not_lt hj)]

/-- a slice of ints that came in -/
theorem open_intsAt {W : World} {fuel : Nat} {cs : List Value} {x : DataW H × List MemPlace} (h : DataW.trod enc Tryd.prog W 0 (fun _ => true) true fuel 37 cs = some x) :
    ∃ A l c, cs = [.slice A l.length c] ∧ l.length ≤ c ∧ IntsAt (· < W.heap.size) W A l ∧ l.length + 1 ≤ Rows.uptoBulk x.1 := by
  rcases open_ints Tryd.underlying37 Tryd.underlying3 cellsInt h with ⟨rfl, rfl⟩ | ⟨a, len, cap, zs, rfl, _, hlc, hcm, hzl, rfl, hc, hwf⟩
  · exact ⟨none, [], 0, rfl, Nat.le_refl _, IntsAt.nil _ _ _, by simp [Rows.uptoBulk]⟩
  · simp only [if_true] at hzl
    have hl : (zs.take len).length = len := by simp; omega
    refine ⟨some a, zs.take len, cap, by rw [hl], by omega, fun hp => ?_, ?_⟩
    · have h0 : W.cell? a = some (.int .i64 (zs.getD 0 0)) := by simpa [Addr.add] using hc 0 (by omega)
      obtain ⟨b, off, rfl, hb⟩ := addr_lit h0
      refine ⟨b, off, rfl, hb, hb, fun j hj => ?_⟩
      rw [nth_take (by omega), ← hc j (by omega), add_lit_]
    · have h1 := bulk_len (H := H) (lits .i64 (zs.take len))
      simp only [lits, List.length_map] at h1
      simp only [Rows.uptoBulk, lits]
      omega

theorem cellsBytes : Tryd.prog.cellsOf 22 = 1 := by kernel_rfl
theorem cellsStep : Tryd.prog.cellsOf 50 = 2 := by kernel_rfl
theorem cellsSource : Tryd.prog.cellsOf 25 = 1 := by kernel_rfl
theorem cellsSteps : Tryd.prog.cellsOf 23 = 1 := by kernel_rfl

set_option maxRecDepth 100000 in
/-- a source that came in -/
theorem open_steps {W : World} {fuel : Nat} {cs : List Value} {x : DataW H × List MemPlace} (h : DataW.trod enc Tryd.prog W 0 (fun _ => true) true fuel 23 cs = some x) :
    ∃ A st c, cs = [.slice A st.length c] ∧ st.length ≤ c ∧ RecsAt (· < W.heap.size) W A st ∧ st.length + 1 ≤ Rows.uptoBulk x.1 ∧ ∀ i, i < st.length → (dat st i).length ≤ Rows.uptoBulk x.1 := by
  rcases open_slice Tryd.underlying23 h with ⟨rfl, rfl⟩ | ⟨a, len, cap, m, n, D, Pl, rfl, _, hlc, hcm, hm, rfl, hall⟩
  · exact ⟨none, [], 0, rfl, Nat.le_refl _, RecsAt.nil _ _ _, by simp [Rows.uptoBulk], fun i hi => by simp at hi⟩
  · simp only [if_true] at hm
    subst hm
    have step : ∀ i, i < len → ∃ r : List Int × Int, ∃ Ai ci, W.cell? (a.add (i * 2)) = some (.slice Ai r.1.length ci) ∧ W.cell? ((a.add (i * 2)).add 1) = some (.int .i64 r.2) ∧ r.1.length ≤ ci ∧ BytesAt (· < W.heap.size) W Ai r.1 ∧ r.1.length ≤ Rows.uptoBulk (D i) := fun i hi => by
      obtain ⟨cs', hcs, ht⟩ := hall i (by omega)
      rw [cellsStep] at hcs
      obtain ⟨y0, y1, n', hx, hl', h0, h1⟩ := trod_struct2 Tryd.underlying50 ht
      obtain ⟨_, hcl, hat⟩ := World.cells?_some hcs
      obtain ⟨c0, c1, rfl⟩ : ∃ c0 c1, cs' = [c0, c1] := by
        match cs', hcl with
        | [c0, c1], _ => exact ⟨c0, c1, rfl⟩
      simp only [cellsBytes, cellsInt] at h0 h1
      have h0' : DataW.trod enc Tryd.prog W 0 (fun _ => true) true n' 22 [c0] = some y0 := by simpa using h0
      have h1' : DataW.trod enc Tryd.prog W 0 (fun _ => true) true n' 3 [c1] = some y1 := by simpa using h1
      obtain ⟨Ai, l, ci, e0, hlc', hby, hbk, _, _⟩ := open_bytes h0'
      obtain ⟨z, e1, _, _⟩ := DataW.trod_int Tryd.underlying3 h1'
      obtain rfl : c0 = .slice Ai l.length ci := by simpa using e0
      obtain rfl : c1 = .int .i64 z := by simpa using e1
      refine ⟨(l, z), Ai, ci, ?_, ?_, hlc', hby, ?_⟩
      · have := hat 0 (by omega)
        simpa [Addr.add] using this
      · have := hat 1 (by omega)
        simpa using this
      · have hD : D i = .agg [y0.1, y1.1] := by simpa using congrArg Prod.fst hx
        rw [hD]
        have := bulk_mem (d := y0.1) (l := [y0.1, y1.1]) (by simp)
        simp only [Rows.uptoBulk]
        omega
    obtain ⟨st, hst, hp⟩ := exists_list (([], 0) : List Int × Int) step
    have hb1 : Rows.uptoBulkAll ((List.range len).map D) + 1 ≤ Rows.uptoBulk (DataW.slice ((List.range len).map D) ((List.range (m - len)).map fun j => D (len + j))) := by simp only [Rows.uptoBulk]; omega
    refine ⟨some a, st, m, by rw [hst], by omega, fun hpos => ?_, ?_, fun i hi => ?_⟩
    · obtain ⟨A0, c0, q1, _⟩ := hp 0 (by omega)
      have q1' : W.cell? a = some (.slice A0 (st.getD 0 ([], 0)).1.length c0) := by simpa [Addr.add] using q1
      obtain ⟨b, off, rfl, hb⟩ := addr_lit q1'
      refine ⟨b, off, rfl, hb, hb, fun i hi => ?_⟩
      obtain ⟨Ai, ci, q1, q2, q3, q4, _⟩ := hp i (by omega)
      rw [add_lit_] at q1 q2
      rw [add_lit_] at q2
      exact ⟨Ai, ci, q1, q2, q3, q4⟩
    · have h1 := bulk_len (H := H) ((List.range len).map D)
      simp only [List.length_map, List.length_range] at h1
      dsimp only
      omega
    · obtain ⟨Ai, ci, q1, q2, q3, q4, q5⟩ := hp i (by omega)
      have h1 := bulk_mem (H := H) (d := D i) (l := (List.range len).map D) (List.mem_map.2 ⟨i, by simp; omega, rfl⟩)
      have h2 : (dat st i).length ≤ Rows.uptoBulk (D i) := q5
      dsimp only
      omega

set_option maxRecDepth 100000 in
theorem open_source {W : World} {base : Nat} {v : Value} {d : DataW H} {p : List MemPlace} (hv : Value.okWide Tryd.prog W .any base 25 v) (h : DataW.Trod enc Tryd.prog W 0 (fun _ => true) true 25 v d p) :
    ∃ A st c, v = .agg #[.slice A st.length c] ∧ st.length ≤ c ∧ RecsAt (· < W.heap.size) W A st ∧ st.length + 1 ≤ Rows.uptoBulk d ∧ ∀ i, i < st.length → (dat st i).length ≤ Rows.uptoBulk d := by
  obtain ⟨cs, rfl, hsz⟩ := okWide_struct Tryd.underlying25 hv
  rw [cellsSource] at hsz
  obtain ⟨l⟩ := cs
  obtain ⟨c0, rfl⟩ : ∃ c0, l = [c0] := by
    match l, hsz with
    | [c0], _ => exact ⟨c0, rfl⟩
  obtain ⟨fuel, hf⟩ := h
  obtain ⟨y0, n, hx, _, h0⟩ := trod_struct1 Tryd.underlying25 hf
  simp only [cellsSteps] at h0
  have h0' : DataW.trod enc Tryd.prog W 0 (fun _ => true) true n 23 [c0] = some y0 := by simpa [Value.cells] using h0
  obtain ⟨A, st, c, e, hlc, hr, hb1, hb2⟩ := open_steps h0'
  obtain rfl : c0 = .slice A st.length c := by simpa using e
  have hd : d = .agg [y0.1] := by simpa using congrArg Prod.fst hx
  have hb : Rows.uptoBulk y0.1 ≤ Rows.uptoBulk d := by
    rw [hd]
    have := bulk_mem (d := y0.1) (l := [y0.1]) (by simp)
    simp only [Rows.uptoBulk]
    omega
  exact ⟨A, st, c, rfl, hlc, hr, by omega, fun i hi => by have := hb2 i hi; omega⟩
end

end Go.Proofs.YteljcdlnfjeaaaaDoor
