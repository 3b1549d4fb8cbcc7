/- Plain laws of reads of several sources. -/
import Derived.Test.YtmoecjhlonokfaaDoorRunP
import Derived.Test.YtmoecjhlonokfaaDoorJoinP
set_option linter.unusedVariables false
set_option linter.unusedSimpArgs false
namespace Go.Proofs.YtmoecjhlonokfaaDoor

/-- one read of several sources, each with its end -/
def multiStep : List (Int × List (List Int × Int)) → Nat → (List Int × Int) × List (Int × List (List Int × Int))
  | [], _ => (([], 1), [])
  | (L, st) :: r, m => if (rd L st m).1.2 = 1 then (if (rd L st m).1.1.length = 0 then multiStep r m else (((rd L st m).1.1, if r.length = 0 then 1 else 0), r)) else ((rd L st m).1, (L, (rd L st m).2) :: r)

/-- all sources are valid -/
def ValidAll (ts : List (Int × List (List Int × Int))) : Prop := ∀ t ∈ ts, Valid t.1 t.2

theorem ValidAll.tail {t : Int × List (List Int × Int)} {r : List (Int × List (List Int × Int))} (h : ValidAll (t :: r)) : ValidAll r := fun x hx => h x (List.mem_cons_of_mem _ hx)
theorem ValidAll.head {t : Int × List (List Int × Int)} {r : List (Int × List (List Int × Int))} (h : ValidAll (t :: r)) : Valid t.1 t.2 := h t List.mem_cons_self

theorem ValidAll.step : ∀ {ts : List (Int × List (List Int × Int))} (_ : ValidAll ts) (m : Nat), ValidAll (multiStep ts m).2
  | [], h, _ => h
  | (L, st) :: r, h, m => by
    unfold multiStep
    split
    · split
      · exact h.tail.step m
      · exact h.tail
    · intro x hx
      rcases List.mem_cons.1 hx with rfl | hx
      · exact h.head.rd m
      · exact h.tail x hx

theorem multiStep_len : ∀ (ts : List (Int × List (List Int × Int))) (m : Nat), (multiStep ts m).1.1.length ≤ m
  | [], m => by simp [multiStep]
  | (L, st) :: r, m => by
    have := rd_len L st m
    unfold multiStep
    split
    · split
      · exact multiStep_len r m
      · exact this
    · exact this

theorem multiStep_err : ∀ {ts : List (Int × List (List Int × Int))} (_ : ValidAll ts) (m : Nat), (multiStep ts m).1.2 = 0 ∨ (multiStep ts m).1.2 = 1 ∨ (multiStep ts m).1.2 = 2
  | [], _, _ => .inr (.inl rfl)
  | (L, st) :: r, h, m => by
    unfold multiStep
    split
    · split
      · exact multiStep_err h.tail m
      · simp only
        split
        · exact .inr (.inl rfl)
        · exact .inl rfl
    · exact h.head.err m

/-- the bytes of all sources -/
def joinAll (ts : List (Int × List (List Int × Int))) : List Int := (ts.map fun t => joinD t.2).flatten
theorem joinAll_cons (t : Int × List (List Int × Int)) (r : List (Int × List (List Int × Int))) : joinAll (t :: r) = joinD t.2 ++ joinAll r := by simp [joinAll]

theorem rd_all {L : Int} {st : List (List Int × Int)} (h : Valid L st) {m : Nat} (he : (rd L st m).1.2 ≠ 0) : (rd L st m).1.1 = joinD st := by
  have h1 := rd_join L st m
  rw [rd_fin h m he] at h1
  simpa [joinD] using h1

theorem multi_join : ∀ {ts : List (Int × List (List Int × Int))} (_ : ValidAll ts) (m : Nat), (multiStep ts m).1.1 ++ joinAll (multiStep ts m).2 = joinAll ts
  | [], _, _ => rfl
  | (L, st) :: r, h, m => by
    unfold multiStep
    split
    · next he =>
      have hj := rd_all h.head (m := m) (by simp only; omega)
      split
      · next h0 =>
        rw [multi_join h.tail m, joinAll_cons, ← hj, List.eq_nil_of_length_eq_zero h0, List.nil_append]
      · rw [joinAll_cons]
        simp only
        rw [hj]
    · rw [joinAll_cons, joinAll_cons]
      simp only
      rw [← List.append_assoc, rd_join]

theorem multiRuns_join : ∀ (zs : List Int) {ts : List (Int × List (List Int × Int))} (_ : ValidAll ts), joinD (runs multiStep zs ts).1 ++ joinAll (runs multiStep zs ts).2 = joinAll ts
  | [], _, _ => by simp [runs, joinD]
  | z :: zs, ts, h => by
    rw [runs, joinD_cons]
    simp only
    rw [List.append_assoc, multiRuns_join zs (h.step _), multi_join h]

/-- no sources: the end at once -/
theorem multiRuns_none : ∀ (zs : List Int) (i : Nat), i < zs.length → dat (runs multiStep zs []).1 i = [] ∧ err (runs multiStep zs []).1 i = 1
  | [], _, h => by simp at h
  | z :: zs, 0, _ => ⟨rfl, rfl⟩
  | z :: zs, i + 1, h => multiRuns_none zs i (by simpa using h)

/-- one source that ends: what it gives alone -/
theorem multiRuns_nil : ∀ (zs : List Int), (runs multiStep zs []).1 = (runs (rd 1) zs []).1
  | [] => rfl
  | z :: zs => by rw [runs, runs]; simp only [multiStep, rd_nil]; rw [multiRuns_nil zs]

theorem multiRuns_one : ∀ (zs : List Int) (st : List (List Int × Int)), Valid 1 st → (runs multiStep zs [(1, st)]).1 = (runs (rd 1) zs st).1
  | [], _, _ => rfl
  | z :: zs, st, h => by
    rw [runs, runs]
    have e : multiStep [(1, st)] z.toNat = if (rd 1 st z.toNat).1.2 = 1 then ((rd 1 st z.toNat).1, []) else ((rd 1 st z.toNat).1, [(1, (rd 1 st z.toNat).2)]) := by
      simp only [multiStep, List.length_nil, if_true]
      split
      · next he =>
        split
        · next h0 =>
          have hx : (rd 1 st z.toNat).1 = ([], 1) := Prod.ext (List.eq_nil_of_length_eq_zero h0) he
          rw [hx]
        · next h0 =>
          have hx : ((rd 1 st z.toNat).1.1, (1 : Int)) = (rd 1 st z.toNat).1 := Prod.ext rfl he.symm
          rw [hx]
      · rfl
    rw [e]
    split
    · next he =>
      simp only
      rw [multiRuns_nil, rd_fin h _ (by omega)]
    · simp only
      rw [multiRuns_one zs _ (h.rd _)]

/-- all sources end -/
def EndAll (ts : List (Int × List (List Int × Int))) : Prop := ∀ t ∈ ts, t.1 = 1

theorem multi_end : ∀ {ts : List (Int × List (List Int × Int))} (_ : ValidAll ts) (_ : EndAll ts) (m : Nat), EndAll (multiStep ts m).2 ∧ ((multiStep ts m).1.2 = 0 ∨ ((multiStep ts m).1.2 = 1 ∧ joinAll (multiStep ts m).2 = []))
  | [], _, _, _ => ⟨(fun _ h => by cases h), .inr ⟨rfl, rfl⟩⟩
  | (L, st) :: r, h, he, m => by
    have hr : EndAll r := fun x hx => he x (List.mem_cons_of_mem _ hx)
    have hL : L = 1 := he (L, st) List.mem_cons_self
    unfold multiStep
    split
    · split
      · exact multi_end h.tail hr m
      · refine ⟨hr, ?_⟩
        simp only
        split
        · next h0 => exact .inr ⟨rfl, by rw [List.eq_nil_of_length_eq_zero h0]; rfl⟩
        · exact .inl rfl
    · next h1 =>
      refine ⟨fun x hx => ?_, .inl ?_⟩
      · rcases List.mem_cons.1 hx with rfl | hx
        · exact hL
        · exact hr x hx
      · by_cases h2 : (rd L st m).1.2 = 0
        · exact h2
        · exact absurd ((rd_err_last h.head m h2).trans hL) h1

/-- each answer is within what is left, and an error stands at its end alone -/
def RunOK (c : Int) : Nat → List (List Int × Int) → Prop
  | _, [] => True
  | a, (d, e) :: r => d.length ≤ a ∧ (e = 0 ∨ (e = c ∧ d.length = a)) ∧ RunOK c (a - d.length) r

theorem RunOK.at {c : Int} : ∀ {a : Nat} {R : List (List Int × Int)} {i : Nat}, RunOK c a R → i < R.length → (joinD (R.take (i + 1))).length ≤ a ∧ (err R i = 0 ∨ (err R i = c ∧ (joinD (R.take (i + 1))).length = a))
  | _, [], _, _, h => by simp at h
  | a, (d, e) :: r, 0, ⟨h1, h2, _⟩, _ => by
    rw [List.take_succ_cons, List.take_zero, joinD_cons]
    simp only [joinD_nil, List.append_nil]
    exact ⟨h1, h2⟩
  | a, (d, e) :: r, i + 1, ⟨h1, _, h3⟩, hi => by
    have ih := h3.at (i := i) (by simpa using hi)
    rw [List.take_succ_cons, joinD_cons, err_succ]
    simp only [List.length_append]
    refine ⟨by omega, ?_⟩
    rcases ih.2 with h | ⟨h, h'⟩
    · exact .inl h
    · exact .inr ⟨h, by omega⟩

theorem multiRuns_end : ∀ (zs : List Int) {ts : List (Int × List (List Int × Int))} (_ : ValidAll ts) (_ : EndAll ts), RunOK 1 (joinAll ts).length (runs multiStep zs ts).1
  | [], _, _, _ => trivial
  | z :: zs, ts, h, he => by
    obtain ⟨e1, e2⟩ := multi_end h he z.toNat
    have hj := congrArg List.length (multi_join h z.toNat)
    rw [List.length_append] at hj
    have ih := multiRuns_end zs (h.step z.toNat) e1
    rw [runs]
    clear h he
    generalize multiStep ts z.toNat = x at *
    obtain ⟨⟨d, e⟩, t'⟩ := x
    simp only at *
    refine ⟨by omega, ?_, by rw [show (joinAll ts).length - d.length = (joinAll t').length by omega]; exact ih⟩
    rcases e2 with h2 | ⟨h2, h3⟩
    · exact .inl h2
    · rw [h3] at hj
      exact .inr ⟨h2, by simpa using hj⟩

/-- the bytes up to the end of the first source that breaks -/
def allB : List (Int × List (List Int × Int)) → List Int
  | [] => []
  | (L, st) :: r => joinD st ++ (if L = 2 then [] else allB r)

def Brk (ts : List (Int × List (List Int × Int))) : Prop := ∃ t ∈ ts, t.1 = 2

theorem multi_brk : ∀ {ts : List (Int × List (List Int × Int))} (_ : ValidAll ts) (_ : Brk ts) (m : Nat), Brk (multiStep ts m).2 ∧ (multiStep ts m).1.1 ++ allB (multiStep ts m).2 = allB ts ∧ ((multiStep ts m).1.2 = 0 ∨ ((multiStep ts m).1.2 = 2 ∧ allB (multiStep ts m).2 = []))
  | [], _, ⟨_, h, _⟩, _ => by cases h
  | (L, st) :: r, h, hb, m => by
    unfold multiStep
    split
    · next he =>
      have hL : L = 1 := (rd_err_last h.head m (by simp only; omega)).symm.trans he
      have hj := rd_all h.head (m := m) (by simp only; omega)
      have hr : Brk r := by
        obtain ⟨t, ht, h2⟩ := hb
        rcases List.mem_cons.1 ht with rfl | ht
        · simp only at h2; omega
        · exact ⟨t, ht, h2⟩
      have ha : allB ((L, st) :: r) = joinD st ++ allB r := by rw [allB, if_neg (by omega)]
      split
      · next h0 =>
        obtain ⟨i1, i2, i3⟩ := multi_brk h.tail hr m
        refine ⟨i1, ?_, i3⟩
        rw [i2, ha, ← hj, List.eq_nil_of_length_eq_zero h0, List.nil_append]
      · refine ⟨hr, by simp only; rw [ha, hj], .inl ?_⟩
        obtain ⟨t, ht, _⟩ := hr
        have : r.length ≠ 0 := by have := List.length_pos_of_mem ht; omega
        simp only
        rw [if_neg this]
    · next h1 =>
      refine ⟨?_, ?_, ?_⟩
      · obtain ⟨t, ht, h2⟩ := hb
        rcases List.mem_cons.1 ht with rfl | ht
        · exact ⟨_, List.mem_cons_self, h2⟩
        · exact ⟨t, List.mem_cons_of_mem _ ht, h2⟩
      · simp only [allB]
        rw [← List.append_assoc, rd_join]
      · rcases h.head.err m with h2 | h2 | h2
        · exact .inl h2
        · exact absurd h2 h1
        · have hL := rd_err_last h.head m (by simp only at h2 ⊢; omega)
          refine .inr ⟨h2, ?_⟩
          simp only [allB]
          rw [rd_fin h.head m (by simp only at h2 ⊢; omega), if_pos (hL.symm.trans h2)]
          rfl

theorem multiRuns_brk : ∀ (zs : List Int) {ts : List (Int × List (List Int × Int))} (_ : ValidAll ts) (_ : Brk ts), RunOK 2 (allB ts).length (runs multiStep zs ts).1
  | [], _, _, _ => trivial
  | z :: zs, ts, h, he => by
    obtain ⟨e1, hj, e2⟩ := multi_brk h he z.toNat
    have hj := congrArg List.length hj
    rw [List.length_append] at hj
    have ih := multiRuns_brk zs (h.step z.toNat) e1
    rw [runs]
    clear h he
    generalize multiStep ts z.toNat = x at *
    obtain ⟨⟨d, e⟩, t'⟩ := x
    simp only at *
    refine ⟨by omega, ?_, by rw [show (allB ts).length - d.length = (allB t').length by omega]; exact ih⟩
    rcases e2 with h2 | ⟨h2, h3⟩
    · exact .inl h2
    · rw [h3] at hj
      exact .inr ⟨h2, by simpa using hj⟩

end Go.Proofs.YtmoecjhlonokfaaDoor
