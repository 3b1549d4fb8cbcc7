/- How a source that came in reads, and how large it can be: each of its slices is weighed by itself. -/
import Derived.Test.YteljcdlnfjeaaaaDoorOpen2
import Derived.SizedLaws
set_option linter.unusedVariables false
set_option linter.unusedSimpArgs false
namespace Go.Proofs.YteljcdlnfjeaaaaDoor
open Go.ChangeShapes Go.WideShapes Go.ChangeAt Go.RowKit Go.Deep

section
variable {H : Type} {enc : TypeId × Value → H}

theorem weights_mem_all {P : Program} {e : TypeId} {d : DataW H} {n : Nat} : ∀ {l : List (DataW H)}, d ∈ l → n ∈ d.weights P e → n ∈ DataW.weightsAll P e l
  | x :: r, h, hn => by
    simp only [DataW.weightsAll, List.mem_append]
    rcases List.mem_cons.1 h with rfl | h
    · exact .inl hn
    · exact .inr (weights_mem_all h hn)

theorem bytesU8 : Tryd.prog.bytesOf 5 = 1 := by kernel_rfl
theorem bytesStep : Tryd.prog.bytesOf 50 = 32 := by kernel_rfl

/-- bytes that came in -/
theorem open_bytesW {W : World} {fuel : Nat} {cs : List Value} {x : DataW H × List MemPlace} (h : DataW.trod enc Tryd.prog W 0 (fun _ => true) true fuel 22 cs = some x) :
    ∃ A l c, cs = [.slice A l.length c] ∧ l.length ≤ c ∧ BytesAt (· < W.heap.size) W A l ∧ ((∀ m ∈ x.1.weights Tryd.prog 22, m ≤ reachBytes) → l.length ≤ 140737488355328) := by
  rcases open_ints Tryd.underlying22 Tryd.underlying5 cellsU8 h with ⟨rfl, rfl⟩ | ⟨a, len, cap, zs, rfl, _, hlc, hcm, hzl, rfl, hc, hwf⟩
  · exact ⟨none, [], 0, rfl, Nat.le_refl _, BytesAt.nil _ _ _, fun _ => by simp⟩
  · simp only [if_true] at hzl
    have hl : (zs.take len).length = len := by simp; omega
    refine ⟨some a, zs.take len, cap, by rw [hl], by omega, fun hp => ?_, fun hm => ?_⟩
    · have h0 : W.cell? a = some (.int .u8 (zs.getD 0 0)) := by simpa [Addr.add] using hc 0 (by omega)
      obtain ⟨b, off, rfl, hb⟩ := addr_lit h0
      refine ⟨b, off, rfl, hb, hb, fun j hj => ?_⟩
      rw [nth_take (by omega), ← hc j (by omega), add_lit_]
    · have h1 := hm _ (by simp only [DataW.weights, Tryd.underlying22]; exact List.mem_cons_self)
      have h2 := reachBytes_lt
      have h4 : (2 : Nat) ^ 47 = 140737488355328 := by decide
      rw [bytesU8] at h1
      simp only [lits, List.length_map] at h1
      omega

set_option maxRecDepth 100000 in
/-- steps that came in -/
theorem open_stepsW {W : World} {fuel : Nat} {cs : List Value} {x : DataW H × List MemPlace} (h : DataW.trod enc Tryd.prog W 0 (fun _ => true) true fuel 23 cs = some x) :
    ∃ A st c, cs = [.slice A st.length c] ∧ st.length ≤ c ∧ RecsAt (· < W.heap.size) W A st ∧ ((∀ m ∈ x.1.weights Tryd.prog 23, m ≤ reachBytes) → st.length * 32 ≤ 140737488355328 ∧ ∀ i, i < st.length → (dat st i).length ≤ 140737488355328) := by
  rcases open_slice Tryd.underlying23 h with ⟨rfl, rfl⟩ | ⟨a, len, cap, m, n, D, Pl, rfl, _, hlc, hcm, hm, rfl, hall⟩
  · exact ⟨none, [], 0, rfl, Nat.le_refl _, RecsAt.nil _ _ _, fun _ => ⟨by simp, fun i hi => by simp at hi⟩⟩
  · simp only [if_true] at hm
    subst hm
    have step : ∀ i, i < len → ∃ r : List Int × Int, ∃ Ai ci, W.cell? (a.add (i * 2)) = some (.slice Ai r.1.length ci) ∧ W.cell? ((a.add (i * 2)).add 1) = some (.int .i64 r.2) ∧ r.1.length ≤ ci ∧ BytesAt (· < W.heap.size) W Ai r.1 ∧ ((∀ q ∈ (D i).weights Tryd.prog 50, q ≤ reachBytes) → r.1.length ≤ 140737488355328) := fun i hi => by
      obtain ⟨cs', hcs, ht⟩ := hall i (by omega)
      rw [cellsStep] at hcs
      obtain ⟨y0, y1, n', hx, hl', h0, h1⟩ := trod_struct2 Tryd.underlying50 ht
      obtain ⟨_, hcl, hat⟩ := World.cells?_some hcs
      obtain ⟨c0, c1, rfl⟩ : ∃ c0 c1, cs' = [c0, c1] := by
        match cs', hcl with
        | [c0, c1], _ => exact ⟨c0, c1, rfl⟩
      simp only [cellsBytes, cellsInt] at h0 h1
      have h0' : DataW.trod enc Tryd.prog W 0 (fun _ => true) true n' 22 [c0] = some y0 := by simpa using h0
      have h1' : DataW.trod enc Tryd.prog W 0 (fun _ => true) true n' 3 [c1] = some y1 := by simpa using h1
      obtain ⟨Ai, l, ci, e0, hlc', hby, hbk⟩ := open_bytesW h0'
      obtain ⟨z, e1, _, _⟩ := DataW.trod_int Tryd.underlying3 h1'
      obtain rfl : c0 = .slice Ai l.length ci := by simpa using e0
      obtain rfl : c1 = .int .i64 z := by simpa using e1
      refine ⟨(l, z), Ai, ci, ?_, ?_, hlc', hby, fun hq => hbk fun q hqm => hq q ?_⟩
      · have := hat 0 (by omega)
        simpa [Addr.add] using this
      · have := hat 1 (by omega)
        simpa using this
      · have hD : D i = .agg [y0.1, y1.1] := by simpa using congrArg Prod.fst hx
        rw [hD]
        simp only [DataW.weights, Tryd.underlying50]
        exact DataW.weights_mem_each (j := 0) (t := 22) rfl rfl q hqm
    obtain ⟨st, hst, hp⟩ := exists_list (([], 0) : List Int × Int) step
    refine ⟨some a, st, m, by rw [hst], by omega, fun hpos => ?_, fun hw => ⟨?_, fun i hi => ?_⟩⟩
    · obtain ⟨A0, c0, q1, _⟩ := hp 0 (by omega)
      have q1' : W.cell? a = some (.slice A0 (st.getD 0 ([], 0)).1.length c0) := by simpa [Addr.add] using q1
      obtain ⟨b, off, rfl, hb⟩ := addr_lit q1'
      refine ⟨b, off, rfl, hb, hb, fun i hi => ?_⟩
      obtain ⟨Ai, ci, q1, q2, q3, q4, _⟩ := hp i (by omega)
      rw [add_lit_] at q1 q2
      rw [add_lit_] at q2
      exact ⟨Ai, ci, q1, q2, q3, q4⟩
    · have h1 := hw _ (by simp only [DataW.weights, Tryd.underlying23]; exact List.mem_cons_self)
      have h2 := reachBytes_lt
      have h4 : (2 : Nat) ^ 47 = 140737488355328 := by decide
      rw [bytesStep] at h1
      simp only [List.length_map, List.length_range] at h1
      omega
    · obtain ⟨Ai, ci, q1, q2, q3, q4, q5⟩ := hp i (by omega)
      refine q5 fun q hqm => hw q ?_
      simp only [DataW.weights, Tryd.underlying23]
      exact List.mem_cons_of_mem _ (List.mem_append.2 (.inl (weights_mem_all (List.mem_map.2 ⟨i, by simp; omega, rfl⟩) hqm)))

set_option maxRecDepth 100000 in
/-- a source that came in -/
theorem open_sourceW {W : World} {base : Nat} {v : Value} {d : DataW H} {p : List MemPlace} (hv : Value.okWide Tryd.prog W .any base 25 v) (h : DataW.Trod enc Tryd.prog W 0 (fun _ => true) true 25 v d p) :
    ∃ A st c, v = .agg #[.slice A st.length c] ∧ st.length ≤ c ∧ RecsAt (· < W.heap.size) W A st ∧ ((∀ m ∈ d.weights Tryd.prog 25, m ≤ reachBytes) → st.length * 32 ≤ 140737488355328 ∧ ∀ i, i < st.length → (dat st i).length ≤ 140737488355328) := by
  obtain ⟨cs, rfl, hsz⟩ := okWide_struct Tryd.underlying25 hv
  rw [cellsSource] at hsz
  obtain ⟨l⟩ := cs
  obtain ⟨c0, rfl⟩ : ∃ c0, l = [c0] := by
    match l, hsz with
    | [c0], _ => exact ⟨c0, rfl⟩
  obtain ⟨fuel, hf⟩ := h
  obtain ⟨y0, n, hx, _, h0⟩ := trod_struct1 Tryd.underlying25 hf
  simp only [cellsSteps] at h0
  have h0' : DataW.trod enc Tryd.prog W 0 (fun _ => true) true n 23 [c0] = some y0 := by simpa [Value.cells] using h0
  obtain ⟨A, st, c, e, hlc, hr, hb⟩ := open_stepsW h0'
  obtain rfl : c0 = .slice A st.length c := by simpa using e
  have hd : d = .agg [y0.1] := by simpa using congrArg Prod.fst hx
  refine ⟨A, st, c, rfl, hlc, hr, fun hw => hb fun m hm => hw m ?_⟩
  rw [hd]
  simp only [DataW.weights, Tryd.underlying25]
  exact DataW.weights_mem_each (j := 0) (t := 23) rfl rfl m hm

/-- what is read of an argument is weighed -/
theorem weighed_of {P : Program} {ts : List TypeId} {ds : List (DataW H)} (h : (DataW.weightsEach P ts ds).all (· ≤ reachBytes) = true) {j : Nat} {t : TypeId} {d : DataW H} (ht : ts[j]? = some t) (hd : ds[j]? = some d) : ∀ m ∈ d.weights P t, m ≤ reachBytes := fun m hm => by
  have := List.all_eq_true.1 h _ (DataW.weights_mem_each ht hd m hm)
  simpa using this
end

end Go.Proofs.YteljcdlnfjeaaaaDoor
